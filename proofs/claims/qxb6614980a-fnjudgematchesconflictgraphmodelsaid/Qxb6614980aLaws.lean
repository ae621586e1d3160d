/-
  The plain laws between the reduced edges, the conflict edges, the order and the cycles: no Go in sight.
-/
import Derived.Test.Qxb6614980aTarj
import Derived.Test.Qxb6614980aGraph
namespace Go.Proofs.Qxb6614980a

theorem Rch.mono {es es' : List (Nat × Nat)} (h : ∀ e ∈ es, e ∈ es') {u v : Nat} (r : Rch es u v) : Rch es' u v := by
  induction r with
  | refl => exact .refl _
  | step e _ ih => exact .step (h _ e) ih
theorem rch_edge1 {es : List (Nat × Nat)} {u v : Nat} (h : ∀ e ∈ edge1 u v, e ∈ es) : Rch es u v := by
  by_cases e : u = v
  · rw [e]; exact .refl _
  · exact Rch.one (h (u, v) (by unfold edge1; rw [if_neg e]; simp))
theorem rstep_sub (s : RSt) (a : Nat × Bool) : ∀ e ∈ s.es, e ∈ (rstep s a).es := by
  intro e he
  unfold rstep
  split
  · exact List.mem_append_left _ (List.mem_append_left _ he)
  · exact List.mem_append_left _ he
theorem rrow_sub (es : List (Nat × Nat)) (row : List (Nat × Bool)) : ∀ q, q ≤ row.length → ∀ e ∈ es, e ∈ (rrow es row q).es := by
  intro q
  induction q with
  | zero => intro _ e he; rw [rrow_zero]; exact he
  | succ q ih =>
    intro hq e he
    rw [rrow_succ es row q (by omega)]
    exact rstep_sub _ _ e (ih (by omega) e he)

abbrev ra (row : List (Nat × Bool)) (i : Nat) : Nat × Bool := row.getD i (0, false)
/-- What the reduced edges of a row's first q accesses keep. -/
structure RowL (es : List (Nat × Nat)) (row : List (Nat × Bool)) (q : Nat) : Prop where
  inv : ∀ i, i < q → ((ra row i).1 ∈ (rrow es row q).readers ∧ (ra row i).2 = false) ∨ ∃ L, (rrow es row q).last = some L ∧ Rch (rrow es row q).es (ra row i).1 L
  con : ∀ i k, i < k → k < q → (ra row i).2 = true ∨ (ra row k).2 = true → Rch (rrow es row q).es (ra row i).1 (ra row k).1
theorem row_law (es : List (Nat × Nat)) (row : List (Nat × Bool)) : ∀ q, q ≤ row.length → RowL es row q := by
  intro q
  induction q with
  | zero => intro _; exact ⟨fun i hi => by omega, fun i k _ hk => by omega⟩
  | succ q ih =>
    intro hq
    have h := ih (by omega)
    have hsub : ∀ e ∈ (rrow es row q).es, e ∈ (rstep (rrow es row q) (ra row q)).es := rstep_sub _ _
    have hE := rrow_succ es row q (by omega)
    obtain ⟨t, x, hx⟩ : ∃ t x, row.getD q (0, false) = (t, x) := ⟨_, _, rfl⟩
    have hra : ra row q = (t, x) := hx
    rw [hx] at hE
    rw [hra] at hsub
    have hlast : ∀ L, (rrow es row q).last = some L → Rch (rstep (rrow es row q) (t, x)).es L t := by
      intro L hL
      apply rch_edge1
      intro e he
      have : e ∈ fromLast (rrow es row q).last t := by rw [hL]; exact he
      cases x
      · rw [rstep_read]; exact List.mem_append_right _ this
      · rw [rstep_write]; exact List.mem_append_left _ (List.mem_append_right _ this)
    have hcon : ∀ i, i < q → (ra row i).2 = true ∨ x = true → Rch (rstep (rrow es row q) (t, x)).es (ra row i).1 t := by
      intro i hi hw
      rcases h.inv i hi with ⟨h1, h2⟩ | ⟨L, h1, h2⟩
      · have hxt : x = true := by
          rcases hw with q1 | q1
          · rw [h2] at q1; cases q1
          · exact q1
        subst hxt
        apply rch_edge1
        intro e he
        rw [rstep_write]
        exact List.mem_append_right _ (List.mem_flatMap.2 ⟨_, h1, he⟩)
      · exact (h2.mono hsub).trans (hlast L h1)
    constructor
    · intro i hi
      rw [hE]
      by_cases e : i = q
      · subst e
        rw [hra]
        cases x
        · rw [rstep_read]; exact .inl ⟨by simp, rfl⟩
        · rw [rstep_write]; exact .inr ⟨t, rfl, .refl _⟩
      · cases x
        · rcases h.inv i (by omega) with ⟨h1, h2⟩ | ⟨L, h1, h2⟩
          · rw [rstep_read]; exact .inl ⟨List.mem_append_left _ h1, h2⟩
          · refine .inr ⟨L, by rw [rstep_read]; exact h1, h2.mono hsub⟩
        · exact .inr ⟨t, by rw [rstep_write], hcon i (by omega) (.inr rfl)⟩
    · intro i k hik hk hw
      rw [hE]
      by_cases e : k = q
      · subst e
        rw [hra] at hw ⊢
        exact hcon i hik hw
      · exact (h.con i k hik (by omega) hw).mono hsub

theorem redTo_sub (items : List (List (Nat × Bool))) (j : Nat) : ∀ d, j + d ≤ items.length → ∀ e ∈ redTo items j, e ∈ redTo items (j + d) := by
  intro d
  induction d with
  | zero => intro _ e he; exact he
  | succ d ih =>
    intro hd e he
    rw [← Nat.add_assoc, redTo_succ _ _ (by omega)]
    exact rrow_sub _ _ _ (Nat.le_refl _) e (ih (by omega) e he)
theorem acc_bare (items : Rows3) (j i : Nat) : ra ((bares items).getD j []) i = ((acc items j i).1, (acc items j i).2.1) := by
  unfold ra acc
  rw [bares_at, bare_at]
/-- Two conflicting accesses: the first's vertex reaches the second's by the reduced edges. -/
theorem conf_rch (items : Rows3) {j i k : Nat} (hj : j < items.length) (hik : i < k) (hk : k < (items.getD j []).length) (hw : (acc items j i).2.1 = true ∨ (acc items j k).2.1 = true) : Rch (redAll (bares items)) (acc items j i).1 (acc items j k).1 := by
  have hl : ((bares items).getD j []).length = (items.getD j []).length := by rw [bares_at, bare_len]
  have h := (row_law (redTo (bares items) j) ((bares items).getD j []) _ (Nat.le_refl _)).con i k hik (by rw [hl]; exact hk) (by rw [acc_bare, acc_bare]; exact hw)
  rw [acc_bare, acc_bare, ← redTo_succ _ _ (by rw [bares_len]; exact hj)] at h
  refine h.mono (fun e he => ?_)
  have := redTo_sub (bares items) (j + 1) ((bares items).length - (j + 1)) (by rw [bares_len]; omega) e he
  rw [show j + 1 + ((bares items).length - (j + 1)) = (bares items).length by rw [bares_len]; omega] at this
  exact this

/-- Every reduced edge is a conflict edge. -/
theorem row_ed (items : Rows3) (es : List (Nat × Nat)) (j : Nat) (hj : j < items.length) (he : ∀ e ∈ es, Ed items e.1 e.2) : ∀ q, q ≤ (items.getD j []).length →
    (∀ e ∈ (rrow es ((bares items).getD j []) q).es, Ed items e.1 e.2) ∧ (∀ L, (rrow es ((bares items).getD j []) q).last = some L → ∃ i, i < q ∧ (acc items j i).1 = L ∧ (acc items j i).2.1 = true) ∧ ∀ r ∈ (rrow es ((bares items).getD j []) q).readers, ∃ i, i < q ∧ (acc items j i).1 = r := by
  have hl : ((bares items).getD j []).length = (items.getD j []).length := by rw [bares_at, bare_len]
  intro q
  induction q with
  | zero => intro _; rw [rrow_zero]; exact ⟨he, (fun L h => by cases h), (fun r h => by cases h)⟩
  | succ q ih =>
    intro hq
    obtain ⟨h1, h2, h3⟩ := ih (by omega)
    rw [rrow_succ _ _ q (by rw [hl]; omega)]
    have hra := acc_bare items j q
    unfold ra at hra
    rw [hra]
    obtain ⟨t, ht⟩ : ∃ t, t = (acc items j q).1 := ⟨_, rfl⟩
    obtain ⟨x, hx⟩ : ∃ x, x = (acc items j q).2.1 := ⟨_, rfl⟩
    rw [← ht, ← hx]
    have hlast : ∀ e ∈ fromLast (rrow es ((bares items).getD j []) q).last t, Ed items e.1 e.2 := by
      intro e hm
      cases hL : (rrow es ((bares items).getD j []) q).last with
      | none => rw [hL] at hm; cases hm
      | some L =>
        rw [hL] at hm
        unfold fromLast edge1 at hm
        simp only at hm
        split at hm
        · cases hm
        · next hne =>
          simp at hm; subst hm
          obtain ⟨i, i1, i2, i3⟩ := h2 L hL
          exact ⟨hne, j, i, q, hj, i1, by omega, i2, ht.symm, .inl i3⟩
    cases x
    · rw [rstep_read]
      refine ⟨fun e hm => ?_, fun L hL => ?_, fun r hr => ?_⟩
      · rcases List.mem_append.1 hm with p | p
        · exact h1 e p
        · exact hlast e p
      · obtain ⟨i, i1, i2⟩ := h2 L hL; exact ⟨i, by omega, i2⟩
      · rcases List.mem_append.1 hr with p | p
        · obtain ⟨i, i1, i2⟩ := h3 r p; exact ⟨i, by omega, i2⟩
        · simp at p; exact ⟨q, by omega, by rw [p]; exact ht.symm⟩
    · rw [rstep_write]
      refine ⟨fun e hm => ?_, fun L hL => ?_, (fun r hr => by cases hr)⟩
      · rcases List.mem_append.1 hm with p | p
        · rcases List.mem_append.1 p with p | p
          · exact h1 e p
          · exact hlast e p
        · obtain ⟨r, r1, r2⟩ := List.mem_flatMap.1 p
          unfold edge1 at r2
          split at r2
          · cases r2
          · next hne =>
            simp at r2; subst r2
            obtain ⟨i, i1, i2⟩ := h3 r r1
            exact ⟨hne, j, i, q, hj, i1, by omega, i2, ht.symm, .inr hx.symm⟩
      · cases hL; exact ⟨q, by omega, ht.symm, hx.symm⟩
theorem red_ed (items : Rows3) : ∀ e ∈ redAll (bares items), Ed items e.1 e.2 := by
  have key : ∀ j, j ≤ items.length → ∀ e ∈ redTo (bares items) j, Ed items e.1 e.2 := by
    intro j
    induction j with
    | zero => intro _ e he; rw [redTo_zero] at he; cases he
    | succ j ih =>
      intro hj
      rw [redTo_succ _ _ (by rw [bares_len]; omega)]
      have hl : ((bares items).getD j []).length = (items.getD j []).length := by rw [bares_at, bare_len]
      exact (row_ed items _ j (by omega) (ih (by omega)) _ (by rw [hl]; exact Nat.le_refl _)).1
  unfold redAll
  exact key _ (by rw [bares_len]; exact Nat.le_refl _)

/-! ### The order -/
theorem taken_idx {n : Nat} {es : List (Nat × Nat)} {ord : List Nat} (h : Taken n es ord) {u v : Nat} (he : (u, v) ∈ es) {i k : Nat} (hi : i < ord.length) (hk : k < ord.length) (eu : ord.getD i 0 = u) (ev : ord.getD k 0 = v) : i < k := by
  have h1 := (h.at_ k hk).1.2 (u, v) he ev.symm
  obtain ⟨q, hq, e⟩ := List.getElem_of_mem h1
  rw [List.length_take] at hq
  rw [List.getElem_take] at e
  have e2 : ord[q] = ord[i] := by
    rw [e, ← eu]
    simp [List.getD, hi]
  have := (List.getElem_inj h.nodup).1 e2
  omega
theorem taken_rch {n : Nat} {es : List (Nat × Nat)} (hg : GoodE n es) {ord : List Nat} (h : Taken n es ord) (hl : ord.length = n) {u v : Nat} (r : Rch es u v) : ∀ {i k : Nat}, i < ord.length → k < ord.length → ord.getD i 0 = u → ord.getD k 0 = v → i ≤ k := by
  induction r with
  | refl u =>
    intro i k hi hk eu ev
    have e2 : ord[i] = ord[k] := by
      have h1 : ord.getD i 0 = ord[i] := by simp [List.getD, hi]
      have h2 : ord.getD k 0 = ord[k] := by simp [List.getD, hk]
      rw [← h1, ← h2, eu, ev]
    have := (List.getElem_inj h.nodup).1 e2
    omega
  | @step u y x e _ ih =>
    intro i k hi hk eu ev
    have hy := (hg _ e).2.1
    obtain ⟨q, hq, e2⟩ := List.getElem_of_mem (all_in h.nodup h.lt hl y hy)
    have e3 : ord.getD q 0 = y := by rw [← e2]; simp [List.getD, hq]
    have h1 := taken_idx h e hi hq eu e3
    have h2 := ih hq hk e3 ev
    omega

/-! ### The cycle -/
theorem kahn_cycle {n : Nat} {es : List (Nat × Nat)} (hg : GoodE n es) {ord : List Nat} (h : Kahn n es ord) (hl : ord.length ≠ n) : ∃ x, x < n ∧ OnC es x := by
  apply Classical.byContradiction
  intro hno
  have hno' : ∀ x, x < n → ¬ OnC es x := fun x hx ho => hno ⟨x, hx, ho⟩
  have hstart : ∃ v, v < n ∧ v ∉ ord := by
    apply Classical.byContradiction
    intro hc
    have hall : ∀ v, v < n → v ∈ ord := fun v hv => Classical.byContradiction (fun q => hc ⟨v, hv, q⟩)
    have h1 := h.t.len
    have h2 : n ≤ ord.length := by
      have := (List.nodup_range (n := n)).length_le_of_subset (l₂ := ord) (fun x hx => hall x (List.mem_range.1 hx))
      rwa [List.length_range] at this
    omega
  have key : ∀ k, ∃ y l, (y :: l).length = k + 1 ∧ (y :: l).Nodup ∧ (∀ x ∈ y :: l, x < n ∧ x ∉ ord) ∧ ∀ z ∈ y :: l, Rch es y z := by
    intro k
    induction k with
    | zero =>
      obtain ⟨v, hv, hvo⟩ := hstart
      exact ⟨v, [], rfl, by simp, (fun x hx => by simp at hx; subst hx; exact ⟨hv, hvo⟩), (fun z hz => by simp at hz; subst hz; exact .refl _)⟩
    | succ k ih =>
      obtain ⟨y, l, h1, h2, h3, h4⟩ := ih
      have hna := h.none y (h3 y (by simp)).1
      have hex : ∃ e ∈ es, e.2 = y ∧ e.1 ∉ ord := by
        apply Classical.byContradiction
        intro hc
        apply hna
        refine ⟨(h3 y (by simp)).2, fun e he hy => Classical.byContradiction (fun q => hc ⟨e, he, hy, q⟩)⟩
      obtain ⟨⟨a, b⟩, he, hb, ha⟩ := hex
      simp only at hb ha
      subst hb
      have hal : a ∉ b :: l := fun hm => hno' a (hg _ he).1 ⟨b, he, h4 a hm⟩
      refine ⟨a, b :: l, by rw [List.length_cons, h1], List.nodup_cons.2 ⟨hal, h2⟩, fun x hx => ?_, fun z hz => ?_⟩
      · rcases List.mem_cons.1 hx with e | e
        · subst e; exact ⟨(hg _ he).1, ha⟩
        · exact h3 x e
      · rcases List.mem_cons.1 hz with e | e
        · rw [e]; exact .refl _
        · exact .step he (h4 z e)
  obtain ⟨y, l, h1, h2, h3, _⟩ := key n
  have := below_len h2 (fun x hx => (h3 x hx).1)
  omega
theorem rch_dist {n s : Nat} {items : Rows3} {D : List Int} (hD : Dist n s items D) {es : List (Nat × Nat)} (hg : GoodE n es) (hed : ∀ e ∈ es, Ed items e.1 e.2) {x y : Nat} (r : Rch es x y) : y = s → 0 ≤ D.getD x 0 := by
  induction r with
  | refl => intro e; rw [e, hD.ss.2]; exact Int.le_refl _
  | step e _ ih =>
    intro h
    exact (hD.step _ _ (hg _ e).2.1 (ih h) (hed _ e)).1
theorem onc_hon {n s : Nat} {items : Rows3} {es : List (Nat × Nat)} (hg : GoodE n es) (hed : ∀ e ∈ es, Ed items e.1 e.2) (h : OnC es s) : ∀ D, Dist n s items D → ∃ x, x < n ∧ Ed items s x ∧ 0 ≤ D.getD x 0 := by
  obtain ⟨y, he, hr⟩ := h
  intro D hD
  exact ⟨y, (hg _ he).2.1, hed _ he, rch_dist hD hg hed hr rfl⟩
end Go.Proofs.Qxb6614980a
