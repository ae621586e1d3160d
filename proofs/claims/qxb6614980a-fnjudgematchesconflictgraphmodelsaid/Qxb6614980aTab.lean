/-
  The conflict table and what the model works out of it: no Go in sight.
-/
import Derived.Test.Qxb6614980aMainP
namespace Go.Proofs.Qxb6614980a

theorem idx_lt {n u v : Nat} (hu : u < n) (hv : v < n) : u * n + v < n * n := by
  have h1 : (u + 1) * n ≤ n * n := Nat.mul_le_mul_right _ hu
  rw [Nat.add_mul, Nat.one_mul] at h1
  omega
theorem idx_inj {n u v u' v' : Nat} (hv : v < n) (hv' : v' < n) (h : u * n + v = u' * n + v') : u = u' ∧ v = v' := by
  have h1 : (u * n + v) / n = u := by
    rw [Nat.mul_comm, Nat.mul_add_div (by omega), Nat.div_eq_of_lt hv, Nat.add_zero]
  have h2 : (u' * n + v') / n = u' := by
    rw [Nat.mul_comm, Nat.mul_add_div (by omega), Nat.div_eq_of_lt hv', Nat.add_zero]
  have h3 : u = u' := by rw [← h1, ← h2, h]
  subst h3
  exact ⟨rfl, by omega⟩
/-- The table says P. -/
def TabIs (n : Nat) (tab : List Bool) (P : Nat → Nat → Prop) : Prop := tab.length = n * n ∧ ∀ u v, u < n → v < n → (tab.getD (u * n + v) false = true ↔ P u v)
theorem TabIs.congr {n : Nat} {tab : List Bool} {P P' : Nat → Nat → Prop} (h : TabIs n tab P) (he : ∀ u v, u < n → v < n → (P u v ↔ P' u v)) : TabIs n tab P' := ⟨h.1, fun u v hu hv => (h.2 u v hu hv).trans (he u v hu hv)⟩
theorem TabIs.set {n : Nat} {tab : List Bool} {P : Nat → Nat → Prop} (h : TabIs n tab P) {a b : Nat} (ha : a < n) (hb : b < n) : TabIs n (tab.set (a * n + b) true) (fun u v => P u v ∨ (u = a ∧ v = b)) := by
  refine ⟨by rw [List.length_set]; exact h.1, fun u v hu hv => ?_⟩
  by_cases e : u = a ∧ v = b
  · obtain ⟨rfl, rfl⟩ := e
    rw [getD_set_eq _ _ _ _ (by rw [h.1]; exact idx_lt ha hb)]
    simp
  · rw [getD_set_ne _ _ _ _ _ (fun q => e (idx_inj hv hb q)), h.2 u v hu hv]
    constructor
    · intro q; exact .inl q
    · rintro (q | q)
      · exact q
      · exact absurd q e
theorem tab_start (n : Nat) : TabIs n (List.replicate (n * n) false) (fun _ _ => False) := by
  refine ⟨by simp, fun u v hu hv => ?_⟩
  have := idx_lt hu hv
  simp [List.getD, this]
/-- The list says P. -/
def BoolIs (n : Nat) (l : List Bool) (P : Nat → Prop) : Prop := l.length = n ∧ ∀ u, u < n → (l.getD u false = true ↔ P u)
theorem BoolIs.congr {n : Nat} {l : List Bool} {P P' : Nat → Prop} (h : BoolIs n l P) (he : ∀ u, u < n → (P u ↔ P' u)) : BoolIs n l P' := ⟨h.1, fun u hu => (h.2 u hu).trans (he u hu)⟩
theorem BoolIs.set {n : Nat} {l : List Bool} {P : Nat → Prop} (h : BoolIs n l P) {a : Nat} (ha : a < n) : BoolIs n (l.set a true) (fun u => P u ∨ u = a) := by
  refine ⟨by rw [List.length_set]; exact h.1, fun u hu => ?_⟩
  by_cases e : u = a
  · subst e; rw [getD_set_eq _ _ _ _ (by rw [h.1]; exact ha)]; simp
  · rw [getD_set_ne _ _ _ _ _ e, h.2 u hu]
    constructor
    · intro q; exact .inl q
    · rintro (q | q)
      · exact q
      · exact absurd q e
theorem boolIs_rep (n : Nat) : BoolIs n (List.replicate n false) (fun _ => False) := ⟨by simp, fun u hu => by simp [List.getD, hu]⟩

/-- The conflict edges of the first it items and the first k accesses of the next. -/
def EdTo (items : Rows3) (it k u v : Nat) : Prop := u ≠ v ∧ ∃ j i k', ((j < it ∧ k' < (items.getD j []).length) ∨ (j = it ∧ k' < k)) ∧ i < k' ∧ (acc items j i).1 = u ∧ (acc items j k').1 = v ∧ ((acc items j i).2.1 = true ∨ (acc items j k').2.1 = true)
/-- What access k adds. -/
def NewC (items : Rows3) (it k u : Nat) : Prop := u ≠ (acc items it k).1 ∧ ∃ i, i < k ∧ (acc items it i).1 = u ∧ ((acc items it i).2.1 = true ∨ (acc items it k).2.1 = true)
theorem edTo_zero (items : Rows3) (u v : Nat) : ¬ EdTo items 0 0 u v := by
  rintro ⟨_, j, i, k, (h | h), _⟩ <;> omega
theorem edTo_succ (items : Rows3) (it k u v : Nat) : EdTo items it (k + 1) u v ↔ EdTo items it k u v ∨ (v = (acc items it k).1 ∧ NewC items it k u) := by
  constructor
  · rintro ⟨hne, j, i, k', hk, hik, h1, h2, h3⟩
    by_cases e : j = it ∧ k' = k
    · obtain ⟨rfl, rfl⟩ := e
      exact .inr ⟨h2.symm, by rw [h2]; exact hne, i, hik, h1, h3⟩
    · refine .inl ⟨hne, j, i, k', ?_, hik, h1, h2, h3⟩
      rcases hk with q | q
      · exact .inl q
      · exact .inr ⟨q.1, by omega⟩
  · rintro (⟨hne, j, i, k', hk, r⟩ | ⟨rfl, hne, i, hi, h1, h2⟩)
    · refine ⟨hne, j, i, k', ?_, r⟩
      rcases hk with q | q
      · exact .inl q
      · exact .inr ⟨q.1, by omega⟩
    · exact ⟨hne, it, i, k, .inr ⟨rfl, by omega⟩, hi, h1, rfl, h2⟩
theorem edTo_next (items : Rows3) (it u v : Nat) : EdTo items (it + 1) 0 u v ↔ EdTo items it (items.getD it []).length u v := by
  constructor
  · rintro ⟨hne, j, i, k', hk, r⟩
    refine ⟨hne, j, i, k', ?_, r⟩
    rcases hk with q | q
    · by_cases e : j = it
      · exact .inr ⟨e, by rw [← e]; exact q.2⟩
      · exact .inl ⟨by omega, q.2⟩
    · omega
  · rintro ⟨hne, j, i, k', hk, r⟩
    refine ⟨hne, j, i, k', .inl ?_, r⟩
    rcases hk with q | q
    · exact ⟨by omega, q.2⟩
    · exact ⟨by omega, by rw [q.1]; exact q.2⟩
theorem edTo_all (items : Rows3) (u v : Nat) : EdTo items items.length 0 u v ↔ Ed items u v := by
  constructor
  · rintro ⟨hne, j, i, k', hk, hik, h1, h2, h3⟩
    rcases hk with q | q
    · exact ⟨hne, j, i, k', q.1, hik, q.2, h1, h2, h3⟩
    · omega
  · rintro ⟨hne, j, i, k', hj, hik, hk, h1, h2, h3⟩
    exact ⟨hne, j, i, k', .inl ⟨hj, hk⟩, hik, h1, h2, h3⟩
def WroteC (items : Rows3) (it k u : Nat) : Prop := ∃ i, i < k ∧ (acc items it i).1 = u ∧ (acc items it i).2.1 = true
def ReadC (items : Rows3) (it k u : Nat) : Prop := ∃ i, i < k ∧ (acc items it i).1 = u ∧ (acc items it i).2.1 = false
theorem wrote_succ (items : Rows3) (it k u : Nat) : WroteC items it (k + 1) u ↔ WroteC items it k u ∨ (u = (acc items it k).1 ∧ (acc items it k).2.1 = true) := by
  constructor
  · rintro ⟨i, hi, h1, h2⟩
    by_cases e : i = k
    · subst e; exact .inr ⟨h1.symm, h2⟩
    · exact .inl ⟨i, by omega, h1, h2⟩
  · rintro (⟨i, hi, r⟩ | ⟨rfl, h⟩)
    · exact ⟨i, by omega, r⟩
    · exact ⟨k, by omega, rfl, h⟩
theorem read_succ (items : Rows3) (it k u : Nat) : ReadC items it (k + 1) u ↔ ReadC items it k u ∨ (u = (acc items it k).1 ∧ (acc items it k).2.1 = false) := by
  constructor
  · rintro ⟨i, hi, h1, h2⟩
    by_cases e : i = k
    · subst e; exact .inr ⟨h1.symm, h2⟩
    · exact .inl ⟨i, by omega, h1, h2⟩
  · rintro (⟨i, hi, r⟩ | ⟨rfl, h⟩)
    · exact ⟨i, by omega, r⟩
    · exact ⟨k, by omega, rfl, h⟩
theorem newC_iff (items : Rows3) (it k u : Nat) : NewC items it k u ↔ u ≠ (acc items it k).1 ∧ (WroteC items it k u ∨ ((acc items it k).2.1 = true ∧ ReadC items it k u)) := by
  constructor
  · rintro ⟨hne, i, hi, h1, h2⟩
    refine ⟨hne, ?_⟩
    cases hw : (acc items it i).2.1
    · rcases h2 with q | q
      · rw [hw] at q; cases q
      · exact .inr ⟨q, i, hi, h1, hw⟩
    · exact .inl ⟨i, hi, h1, hw⟩
  · rintro ⟨hne, (⟨i, hi, h1, h2⟩ | ⟨hw, i, hi, h1, h2⟩)⟩
    · exact ⟨hne, i, hi, h1, .inl h2⟩
    · exact ⟨hne, i, hi, h1, .inr hw⟩

/-! ### Distances are told by what they satisfy -/
theorem dist_le {n s : Nat} {items : Rows3} {D D' : List Int} (h : Dist n s items D) (h' : Dist n s items D') : ∀ (k : Nat) (x : Nat), x < n → D.getD x 0 = (k : Int) → 0 ≤ D'.getD x 0 ∧ D'.getD x 0 ≤ (k : Int) := by
  intro k
  induction k with
  | zero =>
    intro x hx e
    have := h.zero x hx (by omega)
    subst this
    rw [h'.ss.2]
    omega
  | succ k ih =>
    intro x hx e
    obtain ⟨u, hu, h1, h2, h3⟩ := h.par x hx (by omega)
    have := ih u hu (by omega)
    have := h'.step x u hu this.1 h1
    omega
theorem dist_uniq {n s : Nat} {items : Rows3} {D D' : List Int} (h : Dist n s items D) (h' : Dist n s items D') : D = D' := by
  apply List.ext_getElem
  · rw [h.len, h'.len]
  · intro x h1 h2
    have hx : x < n := by rw [← h.len]; exact h1
    have e1 : D.getD x 0 = D[x] := by simp [List.getD, h1]
    have e2 : D'.getD x 0 = D'[x] := by simp [List.getD, h2]
    rw [← e1, ← e2]
    have g1 := (h.ge x hx).1
    have g2 := (h'.ge x hx).1
    by_cases q : 0 ≤ D.getD x 0
    · have a := dist_le h h' (D.getD x 0).toNat x hx (by omega)
      have b := dist_le h' h (D'.getD x 0).toNat x hx (by omega)
      omega
    · by_cases q' : 0 ≤ D'.getD x 0
      · have b := dist_le h' h (D'.getD x 0).toNat x hx (by omega)
        omega
      · omega

/-! ### The order over all edges is the order over the reduced ones -/
def AvailE (items : Rows3) (done : List Nat) (v : Nat) : Prop := v ∉ done ∧ ∀ u, Ed items u v → u ∈ done
theorem closed_back {es : List (Nat × Nat)} {done : List Nat} (hc : ∀ e ∈ es, e.2 ∈ done → e.1 ∈ done) {u v : Nat} (r : Rch es u v) : v ∈ done → u ∈ done := by
  induction r with
  | refl => exact fun h => h
  | step e _ ih => exact fun h => hc _ e (ih h)
theorem taken_closed {n : Nat} {es : List (Nat × Nat)} {ord : List Nat} (h : Taken n es ord) (i : Nat) (hi : i ≤ ord.length) : ∀ e ∈ es, e.2 ∈ ord.take i → e.1 ∈ ord.take i := by
  intro e he hm
  obtain ⟨q, hq, hq2⟩ := List.mem_take_iff_getElem.1 hm
  have hql : q < ord.length := by omega
  have h1 := (h.at_ q hql).1.2 e he (by rw [← hq2]; simp [List.getD, hql])
  exact (List.take_subset_take_left ord (by omega)) h1
theorem avail_iff {items : Rows3} {done : List Nat} (hc : ∀ e ∈ redAll (bares items), e.2 ∈ done → e.1 ∈ done) (v : Nat) : Avail (redAll (bares items)) done v ↔ AvailE items done v := by
  constructor
  · rintro ⟨h1, h2⟩
    refine ⟨h1, fun u hu => ?_⟩
    obtain ⟨hne, j, i, k, hj, hik, hk, e1, e2, hw⟩ := hu
    have r := conf_rch items hj hik hk hw
    rw [e1, e2] at r
    have key : ∀ a b, Rch (redAll (bares items)) a b → b = v → a ≠ v → a ∈ done := by
      intro a b r
      induction r with
      | refl => intro e hn; exact absurd e hn
      | @step a y x e _ ih =>
        intro hx hn
        by_cases hy : y = v
        · exact h2 _ e hy
        · exact hc _ e (ih hx hy)
    exact key u v r rfl hne
  · rintro ⟨h1, h2⟩
    refine ⟨h1, fun e he hv => h2 _ ?_⟩
    have := red_ed items e he
    rw [hv] at this
    exact this
end Go.Proofs.Qxb6614980a
