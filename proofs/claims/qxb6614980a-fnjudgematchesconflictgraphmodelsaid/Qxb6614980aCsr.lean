/-
  A list of edges laid out by the vertex that each leaves: no Go in sight.
-/
namespace Go.Proofs.Qxb6614980a

/-- How many of the first k edges leave u. -/
def cnt (es : List (Nat × Nat)) (u k : Nat) : Nat := ((es.take k).filter fun e => decide (e.1 = u)).length
/-- How many edges leave a vertex below v. -/
def off (es : List (Nat × Nat)) (v : Nat) : Nat := (es.filter fun e => decide (e.1 < v)).length

theorem cnt_zero (es : List (Nat × Nat)) (u : Nat) : cnt es u 0 = 0 := by simp [cnt]
theorem cnt_succ (es : List (Nat × Nat)) (u k : Nat) (h : k < es.length) : cnt es u (k + 1) = cnt es u k + if (es.getD k (0, 0)).1 = u then 1 else 0 := by
  unfold cnt
  rw [List.take_succ_eq_append_getElem h, List.filter_append, List.length_append]
  congr 1
  simp only [List.getD, List.getElem?_eq_getElem h, Option.getD_some]
  by_cases e : es[k].1 = u <;> simp [e]
theorem cnt_le (es : List (Nat × Nat)) (u k : Nat) : cnt es u k ≤ k := by
  unfold cnt
  exact Nat.le_trans (List.length_filter_le _ _) (List.length_take_le _ _)
theorem cnt_mono (es : List (Nat × Nat)) (u : Nat) {i j : Nat} (hij : i ≤ j) (hj : j ≤ es.length) : cnt es u i ≤ cnt es u j := by
  induction j with
  | zero => have : i = 0 := by omega
            subst this; exact Nat.le_refl _
  | succ j ih =>
    by_cases e : i = j + 1
    · subst e; exact Nat.le_refl _
    · have := ih (by omega) (by omega)
      rw [cnt_succ es u j (by omega)]
      omega
theorem off_zero (es : List (Nat × Nat)) : off es 0 = 0 := by simp [off]
theorem off_le (es : List (Nat × Nat)) (v : Nat) : off es v ≤ es.length := List.length_filter_le _ _
theorem off_succ (es : List (Nat × Nat)) (v : Nat) : off es (v + 1) = off es v + cnt es v es.length := by
  unfold off cnt
  rw [List.take_length]
  induction es with
  | nil => rfl
  | cons e es ih =>
    simp only [List.filter_cons] at ih ⊢
    by_cases h1 : e.1 < v
    · have h2 : e.1 < v + 1 := by omega
      have h3 : ¬ e.1 = v := by omega
      simp [h1, h2, h3]; omega
    · by_cases h3 : e.1 = v
      · simp [h3]; omega
      · have h2 : ¬ e.1 < v + 1 := by omega
        simp [h1, h2, h3]; omega
theorem off_mono (es : List (Nat × Nat)) {i j : Nat} (hij : i ≤ j) : off es i ≤ off es j := by
  induction j with
  | zero => have : i = 0 := by omega
            subst this; exact Nat.le_refl _
  | succ j ih =>
    by_cases e : i = j + 1
    · subst e; exact Nat.le_refl _
    · have := ih (by omega)
      rw [off_succ]
      omega
theorem off_all (es : List (Nat × Nat)) (n : Nat) (h : ∀ e ∈ es, e.1 < n) : off es n = es.length := by
  unfold off
  rw [List.filter_eq_self.2 (fun e he => by simpa using h e he)]
/-- Where edge i is laid. -/
def pos (es : List (Nat × Nat)) (i : Nat) : Nat := off es (es.getD i (0, 0)).1 + cnt es (es.getD i (0, 0)).1 i
theorem cnt_lt (es : List (Nat × Nat)) (i : Nat) (hi : i < es.length) : cnt es (es.getD i (0, 0)).1 i < cnt es (es.getD i (0, 0)).1 es.length := by
  have h1 := cnt_succ es (es.getD i (0, 0)).1 i hi
  rw [if_pos rfl] at h1
  have h2 := cnt_mono es (es.getD i (0, 0)).1 (show i + 1 ≤ es.length by omega) (Nat.le_refl _)
  omega
theorem pos_lt (es : List (Nat × Nat)) (i : Nat) (hi : i < es.length) : off es (es.getD i (0, 0)).1 ≤ pos es i ∧ pos es i < off es ((es.getD i (0, 0)).1 + 1) := by
  have h1 := cnt_lt es i hi
  rw [off_succ]
  unfold pos
  omega
theorem pos_len (es : List (Nat × Nat)) (i : Nat) (hi : i < es.length) : pos es i < es.length := Nat.lt_of_lt_of_le (pos_lt es i hi).2 (off_le _ _)
theorem pos_inj (es : List (Nat × Nat)) (i j : Nat) (hij : i < j) (hj : j < es.length) : pos es i ≠ pos es j := by
  have h1 := pos_lt es i (by omega)
  have h2 := pos_lt es j hj
  by_cases e : (es.getD i (0, 0)).1 = (es.getD j (0, 0)).1
  · intro he
    have h3 := cnt_succ es (es.getD i (0, 0)).1 i (by omega)
    rw [if_pos rfl] at h3
    have h4 := cnt_mono es (es.getD i (0, 0)).1 (show i + 1 ≤ j by omega) (by omega)
    unfold pos at he
    rw [← e] at he
    omega
  · intro he
    rcases Nat.lt_or_gt_of_ne e with h | h
    · have := off_mono es (show (es.getD i (0, 0)).1 + 1 ≤ (es.getD j (0, 0)).1 by omega); omega
    · have := off_mono es (show (es.getD j (0, 0)).1 + 1 ≤ (es.getD i (0, 0)).1 by omega); omega
/-- Every place of u's stretch holds an edge of u's. -/
theorem pos_onto (es : List (Nat × Nat)) (u c : Nat) : ∀ k, k ≤ es.length → c < cnt es u k → ∃ i, i < k ∧ (es.getD i (0, 0)).1 = u ∧ cnt es u i = c := by
  intro k
  induction k with
  | zero => intro _ h; rw [cnt_zero] at h; omega
  | succ k ih =>
    intro hk hc
    rw [cnt_succ es u k (by omega)] at hc
    by_cases h : c < cnt es u k
    · obtain ⟨i, hi, h1, h2⟩ := ih (by omega) h
      exact ⟨i, by omega, h1, h2⟩
    · by_cases e : (es.getD k (0, 0)).1 = u
      · rw [if_pos e] at hc
        exact ⟨k, by omega, e, by omega⟩
      · rw [if_neg e] at hc
        omega

/-! ### The array 'start' as it is made -/
def arr1 (n : Nat) (es : List (Nat × Nat)) (k : Nat) : List Int := (List.range (n + 1)).map fun v => if v = 0 then (0 : Int) else (cnt es (v - 1) k : Int)
def arr2 (n : Nat) (es : List (Nat × Nat)) (u : Nat) : List Int := (List.range (n + 1)).map fun v => if v ≤ u then (off es v : Int) else (cnt es (v - 1) es.length : Int)
def arr3 (n : Nat) (es : List (Nat × Nat)) (i : Nat) : List Int := (List.range (n + 1)).map fun v => ((off es v + cnt es v i : Nat) : Int)

theorem mapRange_getD (f : Nat → Int) (n v : Nat) (h : v < n) : ((List.range n).map f).getD v 0 = f v := by simp [List.getD, h]
theorem mapRange_set (f g : Nat → Int) (n v : Nat) (_hv : v < n) (he : ∀ x, x ≠ v → f x = g x) : ((List.range n).map f).set v (g v) = (List.range n).map g := by
  apply List.ext_getElem
  · simp
  · intro i h1 h2
    simp only [List.getElem_set, List.getElem_map, List.getElem_range]
    by_cases e : v = i
    · subst e; simp
    · rw [if_neg e]; exact he i (fun q => e q.symm)
theorem mapRange_congr (f g : Nat → Int) (n : Nat) (he : ∀ x, x < n → f x = g x) : (List.range n).map f = (List.range n).map g := by
  apply List.map_congr_left
  intro x hx
  exact he x (List.mem_range.1 hx)

theorem arr1_len (n : Nat) (es : List (Nat × Nat)) (k : Nat) : (arr1 n es k).length = n + 1 := by simp [arr1]
theorem arr2_len (n : Nat) (es : List (Nat × Nat)) (k : Nat) : (arr2 n es k).length = n + 1 := by simp [arr2]
theorem arr3_len (n : Nat) (es : List (Nat × Nat)) (k : Nat) : (arr3 n es k).length = n + 1 := by simp [arr3]
theorem arr1_zero (n : Nat) (es : List (Nat × Nat)) : arr1 n es 0 = List.replicate (n + 1) 0 := by
  unfold arr1
  apply List.ext_getElem
  · simp
  · intro i h1 h2
    simp [cnt_zero]
theorem arr1_at (n : Nat) (es : List (Nat × Nat)) (k u : Nat) (hu : u < n) : (arr1 n es k).getD (u + 1) 0 = (cnt es u k : Int) := by
  unfold arr1
  rw [mapRange_getD _ _ _ (by omega)]
  simp
theorem arr1_succ (n : Nat) (es : List (Nat × Nat)) (k : Nat) (hk : k < es.length) (hu : (es.getD k (0, 0)).1 < n) : (arr1 n es k).set ((es.getD k (0, 0)).1 + 1) ((cnt es (es.getD k (0, 0)).1 k : Int) + 1) = arr1 n es (k + 1) := by
  unfold arr1
  have := mapRange_set (fun v => if v = 0 then (0 : Int) else (cnt es (v - 1) k : Int)) (fun v => if v = 0 then (0 : Int) else (cnt es (v - 1) (k + 1) : Int)) (n + 1) ((es.getD k (0, 0)).1 + 1) (by omega) (fun x hx => by
    by_cases h0 : x = 0
    · simp [h0]
    · simp only [if_neg h0]
      rw [cnt_succ es (x - 1) k hk, if_neg (by omega)]
      rfl)
  rw [← this]
  congr 1
  rw [if_neg (by omega), Nat.add_sub_cancel, cnt_succ es _ k hk, if_pos rfl]
  omega
theorem arr2_zero (n : Nat) (es : List (Nat × Nat)) : arr2 n es 0 = arr1 n es es.length := by
  unfold arr1 arr2
  apply mapRange_congr
  intro x _
  by_cases h0 : x = 0
  · subst h0; simp [off_zero]
  · rw [if_neg (by omega), if_neg h0]
theorem arr2_next (n : Nat) (es : List (Nat × Nat)) (u : Nat) (hu : u < n) : (arr2 n es u).getD (u + 1) 0 = (cnt es u es.length : Int) := by
  unfold arr2
  rw [mapRange_getD _ _ _ (by omega), if_neg (by omega), Nat.add_sub_cancel]
theorem arr2_at (n : Nat) (es : List (Nat × Nat)) (u : Nat) (hu : u ≤ n) : (arr2 n es u).getD u 0 = (off es u : Int) := by
  unfold arr2
  rw [mapRange_getD _ _ _ (by omega), if_pos (Nat.le_refl _)]
theorem arr2_succ (n : Nat) (es : List (Nat × Nat)) (u : Nat) (hu : u < n) : (arr2 n es u).set (u + 1) ((cnt es u es.length : Int) + (off es u : Int)) = arr2 n es (u + 1) := by
  unfold arr2
  have := mapRange_set (fun v => if v ≤ u then (off es v : Int) else (cnt es (v - 1) es.length : Int)) (fun v => if v ≤ u + 1 then (off es v : Int) else (cnt es (v - 1) es.length : Int)) (n + 1) (u + 1) (by omega) (fun x hx => by
    by_cases h0 : x ≤ u
    · rw [if_pos h0, if_pos (by omega)]
    · rw [if_neg h0, if_neg (by omega)])
  rw [← this]
  congr 1
  rw [if_pos (Nat.le_refl _), off_succ]
  omega
theorem arr3_zero (n : Nat) (es : List (Nat × Nat)) : arr3 n es 0 = arr2 n es n := by
  unfold arr2 arr3
  apply mapRange_congr
  intro x hx
  rw [if_pos (by omega), cnt_zero, Nat.add_zero]
theorem arr3_at (n : Nat) (es : List (Nat × Nat)) (i u : Nat) (hu : u < n) : (arr3 n es i).getD u 0 = ((off es u + cnt es u i : Nat) : Int) := by
  unfold arr3
  rw [mapRange_getD _ _ _ (by omega)]
theorem arr3_succ (n : Nat) (es : List (Nat × Nat)) (i : Nat) (hi : i < es.length) (hu : (es.getD i (0, 0)).1 < n) : (arr3 n es i).set (es.getD i (0, 0)).1 (((off es (es.getD i (0, 0)).1 + cnt es (es.getD i (0, 0)).1 i : Nat) : Int) + 1) = arr3 n es (i + 1) := by
  unfold arr3
  have := mapRange_set (fun v => ((off es v + cnt es v i : Nat) : Int)) (fun v => ((off es v + cnt es v (i + 1) : Nat) : Int)) (n + 1) (es.getD i (0, 0)).1 (by omega) (fun x hx => by
    rw [cnt_succ es x i hi, if_neg (fun e => hx e.symm)]
    rfl)
  rw [← this]
  congr 1
  rw [cnt_succ es _ i hi, if_pos rfl]
  omega

/-! ### The array 'to' -/
/-- The first i edges are laid. -/
def ToAt (es : List (Nat × Nat)) (T : List Int) (i : Nat) : Prop := ∀ k, k < i → T.getD (pos es k) 0 = ((es.getD k (0, 0)).2 : Int)
theorem toAt_succ (es : List (Nat × Nat)) (T : List Int) (i : Nat) (hl : T.length = es.length) (hi : i < es.length) (h : ToAt es T i) : ToAt es (T.set (pos es i) ((es.getD i (0, 0)).2 : Int)) (i + 1) := by
  intro k hk
  by_cases e : k = i
  · subst e
    have : pos es k < T.length := by rw [hl]; exact pos_len es k hi
    simp [List.getD, this]
  · have hne := pos_inj es k i (by omega) hi
    have := h k (by omega)
    simp only [List.getD] at this ⊢
    rw [List.getElem?_set_ne (fun q => hne q.symm)]
    exact this

end Go.Proofs.Qxb6614980a
