/-
  The model's order and cycle, told by what they satisfy: no Go in sight.
-/
import Derived.Test.Qxb6614980aTab
namespace Go.Proofs.Qxb6614980a

/-! ### The order -/
structure TakenE (n : Nat) (items : Rows3) (ord : List Nat) : Prop where
  lt : ∀ v ∈ ord, v < n
  at_ : ∀ i, i < ord.length → AvailE items (ord.take i) (ord.getD i 0) ∧ ∀ v, v < n → AvailE items (ord.take i) v → ord.getD i 0 ≤ v
theorem takenE_nil (n : Nat) (items : Rows3) : TakenE n items [] := ⟨(fun v h => by cases h), (fun i h => by simp at h)⟩
theorem TakenE.push {n : Nat} {items : Rows3} {ord : List Nat} (h : TakenE n items ord) {u : Nat} (hu : u < n) (ha : AvailE items ord u) (hm : ∀ v, v < n → AvailE items ord v → u ≤ v) : TakenE n items (ord ++ [u]) := by
  refine ⟨fun v hv => ?_, fun i hi => ?_⟩
  · rcases List.mem_append.1 hv with h1 | h1
    · exact h.lt v h1
    · simp at h1; subst h1; exact hu
  · rw [List.length_append, List.length_singleton] at hi
    by_cases e : i = ord.length
    · subst e
      have e1 : (ord ++ [u]).take ord.length = ord := by simp
      have e2 : (ord ++ [u]).getD ord.length 0 = u := by simp [List.getD]
      rw [e1, e2]
      exact ⟨ha, hm⟩
    · have e1 : (ord ++ [u]).take i = ord.take i := by rw [List.take_append_of_le_length (by omega)]
      have e2 : (ord ++ [u]).getD i 0 = ord.getD i 0 := by
        simp only [List.getD]
        rw [List.getElem?_append_left (by omega)]
      rw [e1, e2]
      exact h.at_ i (by omega)
theorem TakenE.nodup {n : Nat} {items : Rows3} {ord : List Nat} (h : TakenE n items ord) : ord.Nodup := by
  rw [List.Nodup, List.pairwise_iff_getElem]
  intro i j hi hj hij e
  have h1 := (h.at_ j hj).1.1
  apply h1
  have e2 : ord.getD j 0 = ord[j] := by simp [List.getD, hj]
  rw [e2, ← e, List.mem_take_iff_getElem]
  exact ⟨i, by omega, rfl⟩
theorem TakenE.len {n : Nat} {items : Rows3} {ord : List Nat} (h : TakenE n items ord) : ord.length ≤ n := below_len h.nodup h.lt
theorem TakenE.full {n : Nat} {items : Rows3} {ord : List Nat} (h : TakenE n items ord) (hl : ord.length = n) : ∀ v, v < n → ¬ AvailE items ord v := fun v hv ha => ha.1 (all_in h.nodup h.lt hl v hv)
/-- There is but one such order. -/
theorem order_uniq {n : Nat} {items : Rows3} {o1 o2 : List Nat} (h1 : Kahn n (redAll (bares items)) o1) (h2 : TakenE n items o2) (hn : ∀ v, v < n → ¬ AvailE items o2 v) : o1 = o2 := by
  have key : ∀ i, i ≤ o1.length → i ≤ o2.length ∧ o1.take i = o2.take i := by
    intro i
    induction i with
    | zero => intro _; exact ⟨Nat.zero_le _, by simp⟩
    | succ i ih =>
      intro hi
      obtain ⟨hl, he⟩ := ih (by omega)
      have hc := taken_closed h1.t i (by omega)
      have hi1 : i < o1.length := by omega
      have a1 := h1.t.at_ i hi1
      have av1 : AvailE items (o2.take i) (o1.getD i 0) := by rw [← he]; exact (avail_iff hc _).1 a1.1
      have hlt1 : o1.getD i 0 < n := h1.t.lt _ (by
        have : o1.getD i 0 = o1[i] := by simp [List.getD, hi1]
        rw [this]; exact List.getElem_mem _)
      have hi2 : i < o2.length := by
        apply Decidable.byContradiction
        intro hq
        have : i = o2.length := by omega
        subst this
        rw [List.take_length] at av1
        exact hn _ hlt1 av1
      have a2 := h2.at_ i hi2
      have hlt2 : o2.getD i 0 < n := h2.lt _ (by
        have : o2.getD i 0 = o2[i] := by simp [List.getD, hi2]
        rw [this]; exact List.getElem_mem _)
      have av2 : Avail (redAll (bares items)) (o1.take i) (o2.getD i 0) := (avail_iff hc _).2 (by rw [he]; exact a2.1)
      have le1 := a1.2 _ hlt2 av2
      have le2 := a2.2 _ hlt1 av1
      have e3 : o1.getD i 0 = o2.getD i 0 := by omega
      refine ⟨hi2, ?_⟩
      rw [List.take_succ_eq_append_getElem hi1, List.take_succ_eq_append_getElem hi2, he]
      congr 2
      have x1 : o1.getD i 0 = o1[i] := by simp [List.getD, hi1]
      have x2 : o2.getD i 0 = o2[i] := by simp [List.getD, hi2]
      rw [← x1, ← x2, e3]
  obtain ⟨hl, he⟩ := key o1.length (Nat.le_refl _)
  rw [List.take_length] at he
  by_cases hq : o1.length = o2.length
  · rw [he, hq, List.take_length]
  · exfalso
    have hi2 : o1.length < o2.length := by omega
    have a2 := h2.at_ o1.length hi2
    rw [← he] at a2
    have hc := taken_closed h1.t o1.length (Nat.le_refl _)
    rw [List.take_length] at hc
    have hlt2 : o2.getD o1.length 0 < n := h2.lt _ (by
      have : o2.getD o1.length 0 = o2[o1.length] := by simp [List.getD, hi2]
      rw [this]; exact List.getElem_mem _)
    exact h1.none _ hlt2 ((avail_iff hc _).2 a2.1)

/-! ### The counts -/
def tb (n : Nat) (tab : List Bool) (u w : Nat) : Bool := tab.getD (u * n + w) false
def cntT (n : Nat) (tab : List Bool) (u w : Nat) : Nat := ((List.range u).filter fun a => tb n tab a w).length
theorem cntT_succ (n : Nat) (tab : List Bool) (u w : Nat) : cntT n tab (u + 1) w = cntT n tab u w + if tb n tab u w = true then 1 else 0 := by
  unfold cntT
  rw [List.range_succ, List.filter_append, List.length_append]
  congr 1
  by_cases h : tb n tab u w = true
  · rw [if_pos h, List.filter_cons_of_pos (p := fun a => tb n tab a w) h]; rfl
  · rw [if_neg h, List.filter_cons_of_neg (p := fun a => tb n tab a w) h]; rfl
theorem cntT_le (n : Nat) (tab : List Bool) (u w : Nat) : cntT n tab u w ≤ u := by
  have := List.length_filter_le (fun a => tb n tab a w) (List.range u)
  rw [List.length_range] at this
  exact this
def remT (n : Nat) (tab : List Bool) (done : List Nat) (w : Nat) : Nat := ((List.range n).filter fun a => tb n tab a w && decide (a ∉ done)).length
theorem remT_nil (n : Nat) (tab : List Bool) (w : Nat) : remT n tab [] w = cntT n tab n w := by simp [remT, cntT]
theorem remT_le (n : Nat) (tab : List Bool) (done : List Nat) (w : Nat) : remT n tab done w ≤ n := by
  have := List.length_filter_le (fun a => tb n tab a w && decide (a ∉ done)) (List.range n)
  rw [List.length_range] at this
  exact this
theorem remT_zero {n : Nat} {tab : List Bool} {done : List Nat} {w : Nat} : remT n tab done w = 0 ↔ ∀ u, u < n → tb n tab u w = true → u ∈ done := by
  unfold remT
  rw [List.length_eq_zero_iff, List.filter_eq_nil_iff]
  constructor
  · intro h u hu ht
    have := h u (List.mem_range.2 hu)
    simp [ht] at this
    exact this
  · intro h u hu
    have := h u (List.mem_range.1 hu)
    by_cases ht : tb n tab u w = true
    · simp [ht, this ht]
    · simp [ht]
theorem filter_one (l : List Nat) (hn : l.Nodup) (p : Nat → Bool) (x : Nat) (hx : x ∈ l) (done : List Nat) (hd : x ∉ done) : (l.filter fun a => p a && decide (a ∉ done)).length = (l.filter fun a => p a && decide (a ∉ done ++ [x])).length + if p x = true then 1 else 0 := by
  induction l with
  | nil => cases hx
  | cons y ys ih =>
    obtain ⟨h1, h2⟩ := List.nodup_cons.1 hn
    by_cases e : y = x
    · subst e
      have hs : ys.filter (fun a => p a && decide (a ∉ done)) = ys.filter (fun a => p a && decide (a ∉ done ++ [y])) := by
        apply List.filter_congr
        intro a ha
        have hay : a ≠ y := fun q => h1 (q ▸ ha)
        simp [hay]
      have f2 : ¬ ((p y && decide (y ∉ done ++ [y])) = true) := by simp
      rw [List.filter_cons_of_neg (p := fun a => p a && decide (a ∉ done ++ [y])) f2, ← hs]
      by_cases hp : p y = true
      · have f1 : (p y && decide (y ∉ done)) = true := by simp [hp, hd]
        rw [List.filter_cons_of_pos (p := fun a => p a && decide (a ∉ done)) f1, if_pos hp]
        rfl
      · have f1 : ¬ ((p y && decide (y ∉ done)) = true) := by simp [hp]
        rw [List.filter_cons_of_neg (p := fun a => p a && decide (a ∉ done)) f1, if_neg hp]
        rfl
    · have hx' : x ∈ ys := by
        rcases List.mem_cons.1 hx with q | q
        · exact absurd q.symm e
        · exact q
      have ih' := ih h2 hx'
      by_cases hp : (p y && decide (y ∉ done)) = true
      · have hp2 : (p y && decide (y ∉ done ++ [x])) = true := by
          simp only [Bool.and_eq_true, decide_eq_true_eq] at hp ⊢
          exact ⟨hp.1, fun q => by
            rcases List.mem_append.1 q with r | r
            · exact hp.2 r
            · simp at r; exact e r⟩
        rw [List.filter_cons_of_pos (p := fun a => p a && decide (a ∉ done)) hp, List.filter_cons_of_pos (p := fun a => p a && decide (a ∉ done ++ [x])) hp2, List.length_cons, List.length_cons, ih']
        omega
      · have hp2 : ¬ ((p y && decide (y ∉ done ++ [x])) = true) := by
          simp only [Bool.and_eq_true, decide_eq_true_eq] at hp ⊢
          exact fun q => hp ⟨q.1, fun r => q.2 (List.mem_append_left _ r)⟩
        rw [List.filter_cons_of_neg (p := fun a => p a && decide (a ∉ done)) hp, List.filter_cons_of_neg (p := fun a => p a && decide (a ∉ done ++ [x])) hp2, ih']
theorem remT_push {n : Nat} {tab : List Bool} {done : List Nat} {x : Nat} (hx : x < n) (hd : x ∉ done) (w : Nat) : remT n tab done w = remT n tab (done ++ [x]) w + if tb n tab x w = true then 1 else 0 :=
  filter_one (List.range n) List.nodup_range (fun a => tb n tab a w) x (List.mem_range.2 hx) done hd
theorem avail_rem {n : Nat} {tab : List Bool} {items : Rows3} (h : TabIs n tab (Ed items)) (hlt : ∀ x u, Ed items x u → x < n ∧ u < n) {done : List Nat} {v : Nat} (hv : v < n) : AvailE items done v ↔ v ∉ done ∧ remT n tab done v = 0 := by
  rw [remT_zero]
  constructor
  · rintro ⟨h1, h2⟩
    exact ⟨h1, fun u hu ht => h2 u ((h.2 u v hu hv).1 ht)⟩
  · rintro ⟨h1, h2⟩
    exact ⟨h1, fun u hu => h2 u (hlt u v hu).1 ((h.2 u v (hlt u v hu).1 hv).2 hu)⟩

/-! ### The cycle -/
/-- The best so far: -1, or one more than the least distance of a successor. -/
def BestE (items : Rows3) (D : List Int) (s q : Nat) (best : Int) : Prop :=
  (best = -1 ∧ ∀ w, w < q → Ed items s w → D.getD w 0 < 0) ∨ ∃ w, w < q ∧ Ed items s w ∧ 0 ≤ D.getD w 0 ∧ best = D.getD w 0 + 1 ∧ ∀ w', w' < q → Ed items s w' → 0 ≤ D.getD w' 0 → best ≤ D.getD w' 0 + 1
theorem bestE_zero (items : Rows3) (D : List Int) (s : Nat) : BestE items D s 0 (-1) := .inl ⟨rfl, fun w hw => by omega⟩
theorem BestE.skip {items : Rows3} {D : List Int} {s q : Nat} {best : Int} (h : BestE items D s q best) (hn : Ed items s q → 0 ≤ D.getD q 0 → 0 ≤ best ∧ best ≤ D.getD q 0 + 1) : BestE items D s (q + 1) best := by
  rcases h with ⟨h1, h2⟩ | ⟨w, h1, h2, h3, h4, h5⟩
  · refine .inl ⟨h1, fun w hw he => ?_⟩
    by_cases e : w = q
    · subst e
      apply Decidable.byContradiction
      intro hc
      have := hn he (by omega)
      omega
    · exact h2 w (by omega) he
  · refine .inr ⟨w, by omega, h2, h3, h4, fun w' hw' he h0 => ?_⟩
    by_cases e : w' = q
    · subst e; exact (hn he h0).2
    · exact h5 w' (by omega) he h0
theorem BestE.take {items : Rows3} {D : List Int} {s q : Nat} {best : Int} (h : BestE items D s q best) (he : Ed items s q) (h0 : 0 ≤ D.getD q 0) (hb : best < 0 ∨ D.getD q 0 + 1 < best) : BestE items D s (q + 1) (D.getD q 0 + 1) := by
  refine .inr ⟨q, by omega, he, h0, rfl, fun w' hw' he' h0' => ?_⟩
  by_cases e : w' = q
  · subst e; omega
  · rcases h with ⟨_, h2⟩ | ⟨w, _, _, h3, h4, h5⟩
    · have := h2 w' (by omega) he'
      omega
    · have := h5 w' (by omega) he' h0'
      omega
theorem dist_rch {n s : Nat} {items : Rows3} {D : List Int} (hD : Dist n s items D) : ∀ (k x : Nat), x < n → D.getD x 0 = (k : Int) → Rch (redAll (bares items)) x s := by
  intro k
  induction k with
  | zero =>
    intro x hx e
    rw [hD.zero x hx (by omega)]
    exact .refl _
  | succ k ih =>
    intro x hx e
    obtain ⟨u, hu, h1, h2, h3⟩ := hD.par x hx (by omega)
    obtain ⟨_, j, i, k', hj, hik, hk, e1, e2, hw⟩ := h1
    have r := conf_rch items hj hik hk hw
    rw [e1, e2] at r
    exact r.trans (ih u hu (by omega))
/-- A vertex on no cycle has no best. -/
theorem best_none {n s : Nat} {items : Rows3} {D : List Int} (hD : Dist n s items D) (hno : ¬ OnC (redAll (bares items)) s) {best : Int} (h : BestE items D s n best) : best = -1 := by
  rcases h with ⟨h1, _⟩ | ⟨w, h1, h2, h3, _⟩
  · exact h1
  · exfalso
    apply hno
    have r2 := dist_rch hD (D.getD w 0).toNat w h1 (by omega)
    obtain ⟨hne, j, i, k', hj, hik, hk, e1, e2, hw⟩ := h2
    have r := conf_rch items hj hik hk hw
    rw [e1, e2] at r
    exact onC_of r hne r2
theorem best_some {n s : Nat} {items : Rows3} {D : List Int} {path : List Nat} (hD : Dist n s items D) (hP : Pth n s items D path) (hne : path ≠ []) {best : Int} (h : BestE items D s n best) : best = D.getD (path.getD 0 0) 0 + 1 := by
  have hpos : 0 < path.length := List.length_pos_iff.2 hne
  have st := hP.st 0 hpos
  have e0 : (s :: path).getD 0 0 = s := rfl
  rw [e0] at st
  have hp0 : path.getD 0 0 < n := hP.lt _ (by
    have : path.getD 0 0 = path[0] := by simp [List.getD, hpos]
    rw [this]; exact List.getElem_mem _)
  rcases h with ⟨_, h2⟩ | ⟨w, h1, h2, h3, h4, h5⟩
  · have := h2 _ hp0 st.1
    have := st.2.1
    omega
  · have hw0 : 0 < D.getD w 0 := by
      apply Decidable.byContradiction
      intro hc
      have := hD.zero w h1 (by omega)
      exact h2.1 this.symm
    have a := st.2.2 w h2 hw0
    have b := h5 _ hp0 st.1 (by have := st.2.1; omega)
    omega
theorem path_len {n s : Nat} {items : Rows3} {D : List Int} {path : List Nat} (hP : Pth n s items D path) (hne : path ≠ []) (hl : D.getD (lastOf s path) 0 = 1) : (path.length : Int) = D.getD (path.getD 0 0) 0 := by
  have hpos : 0 < path.length := List.length_pos_iff.2 hne
  have h1 := hP.fall (path.length - 1) (by omega)
  have e : lastOf s path = path.getD (path.length - 1) 0 := by
    unfold lastOf
    obtain ⟨k, hk⟩ : ∃ k, path.length = k + 1 := ⟨path.length - 1, by omega⟩
    rw [hk]
    simp
  rw [e] at hl
  omega
/-- The next vertex: the lowest successor one nearer. -/
theorem pick_is {n s : Nat} {items : Rows3} {D : List Int} {path : List Nat} (hP : Pth n s items D path) {i : Nat} (hi : i < path.length) : Ed items ((s :: path).getD i 0) (path.getD i 0) ∧ D.getD (path.getD i 0) 0 = D.getD (path.getD 0 0) 0 - (i : Int) ∧ ∀ t, Ed items ((s :: path).getD i 0) t → D.getD t 0 = D.getD (path.getD 0 0) 0 - (i : Int) → path.getD i 0 ≤ t := by
  have st := hP.st i hi
  have h1 := hP.fall i hi
  refine ⟨st.1, by omega, fun t he hd => ?_⟩
  have := st.2.2 t he (by have := st.2.1; omega)
  omega
end Go.Proofs.Qxb6614980a
