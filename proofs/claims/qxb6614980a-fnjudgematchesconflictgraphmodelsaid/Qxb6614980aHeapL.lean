/-
  A binary heap in a list: no Go in sight.
-/
namespace Go.Proofs.Qxb6614980a

def swp (xs : List Int) (i j : Nat) : List Int := (xs.set i (xs.getD j 0)).set j (xs.getD i 0)
theorem swp_len (xs : List Int) (i j : Nat) : (swp xs i j).length = xs.length := by simp [swp]
theorem swp_at (xs : List Int) (i j k : Nat) (hi : i < xs.length) (hj : j < xs.length) : (swp xs i j).getD k 0 = if k = j then xs.getD i 0 else if k = i then xs.getD j 0 else xs.getD k 0 := by
  unfold swp
  by_cases h1 : k = j
  · subst h1
    rw [if_pos rfl]
    simp [List.getD, hj]
  · rw [if_neg h1]
    by_cases h2 : k = i
    · subst h2
      rw [if_pos rfl]
      have h3 : j ≠ k := fun e => h1 e.symm
      simp [List.getD, hi, h3]
    · rw [if_neg h2]
      have h3 : j ≠ k := fun e => h1 e.symm
      have h4 : i ≠ k := fun e => h2 e.symm
      simp [List.getD, h3, h4]
theorem swp_perm (xs : List Int) (i j : Nat) (hi : i < xs.length) (hj : j < xs.length) : (swp xs i j).Perm xs := by
  have h := Array.swap_perm (xs := xs.toArray) (i := i) (j := j) (by simpa using hi) (by simpa using hj)
  have h2 := h.toList
  have e : (xs.toArray.swap i j (by simpa using hi) (by simpa using hj)).toList = swp xs i j := by
    simp [swp, List.getD, hi, hj]
  rw [e] at h2
  exact h2

/-- Every element but the first n's root is no less than its parent. -/
def HeapN (xs : List Int) (n : Nat) : Prop := ∀ c, 0 < c → c < n → xs.getD ((c - 1) / 2) 0 ≤ xs.getD c 0
def UpOk (xs : List Int) (k : Nat) : Prop := (∀ c, 0 < c → c < xs.length → c ≠ k → xs.getD ((c - 1) / 2) 0 ≤ xs.getD c 0) ∧ ∀ c, 0 < c → c < xs.length → (c - 1) / 2 = k → 0 < k → xs.getD ((k - 1) / 2) 0 ≤ xs.getD c 0
theorem up_done {xs : List Int} {k : Nat} (h : UpOk xs k) (hk : k = 0 ∨ ¬ xs.getD k 0 < xs.getD ((k - 1) / 2) 0) : HeapN xs xs.length := by
  intro c h0 hc
  by_cases e : c = k
  · subst e
    rcases hk with h | h
    · omega
    · exact Int.not_lt.1 h
  · exact h.1 c h0 hc e
theorem up_step {xs : List Int} {k : Nat} (h : UpOk xs k) (h0 : 0 < k) (hk : k < xs.length) (hl : xs.getD k 0 < xs.getD ((k - 1) / 2) 0) : UpOk (swp xs ((k - 1) / 2) k) ((k - 1) / 2) := by
  obtain ⟨h1, h2⟩ := h
  have hp : (k - 1) / 2 < k := by omega
  generalize hpe : (k - 1) / 2 = p at *
  have A : ∀ x, (swp xs p k).getD x 0 = if x = k then xs.getD p 0 else if x = p then xs.getD k 0 else xs.getD x 0 := fun x => swp_at xs p k x (by omega) hk
  constructor
  · intro c c0 hc hcp
    rw [swp_len] at hc
    rw [A, A]
    by_cases e1 : c = k
    · subst e1
      rw [if_pos rfl, hpe, if_neg (by omega), if_pos rfl]
      omega
    · rw [if_neg e1, if_neg hcp]
      by_cases e2 : (c - 1) / 2 = k
      · rw [if_pos e2]
        exact h2 c c0 hc e2 h0
      · rw [if_neg e2]
        have h3 := h1 c c0 hc e1
        by_cases e3 : (c - 1) / 2 = p
        · rw [if_pos e3]
          rw [e3] at h3
          omega
        · rw [if_neg e3]
          exact h3
  · intro c c0 hc hcp p0
    rw [swp_len] at hc
    rw [A, A, if_neg (by omega), if_neg (by omega)]
    have h3 := h1 p p0 (by omega) (by omega)
    by_cases e1 : c = k
    · rw [if_pos e1]
      exact h3
    · rw [if_neg e1, if_neg (by omega)]
      have h4 := h1 c c0 hc e1
      rw [hcp] at h4
      omega
theorem up_start {xs : List Int} (h : HeapN xs xs.length) (y : Int) : UpOk (xs ++ [y]) xs.length := by
  have A : ∀ x, x < xs.length → (xs ++ [y]).getD x 0 = xs.getD x 0 := fun x hx => by
    simp only [List.getD]
    rw [List.getElem?_append_left hx]
  constructor
  · intro c c0 hc hn
    simp at hc
    rw [A _ (by omega), A _ (by omega)]
    exact h c c0 (by omega)
  · intro c c0 hc hp h0
    simp at hc
    omega

def DnOk (xs : List Int) (n i : Nat) : Prop := (∀ c, 0 < c → c < n → (c - 1) / 2 ≠ i → xs.getD ((c - 1) / 2) 0 ≤ xs.getD c 0) ∧ ∀ c, 0 < c → c < n → (c - 1) / 2 = i → 0 < i → xs.getD ((i - 1) / 2) 0 ≤ xs.getD c 0
theorem dn_done {xs : List Int} {n i : Nat} (h : DnOk xs n i) (hi : ∀ c, 0 < c → c < n → (c - 1) / 2 = i → xs.getD i 0 ≤ xs.getD c 0) : HeapN xs n := by
  intro c h0 hc
  by_cases e : (c - 1) / 2 = i
  · rw [e]; exact hi c h0 hc e
  · exact h.1 c h0 hc e
theorem dn_step {xs : List Int} {n i m : Nat} (hn : n ≤ xs.length) (h : DnOk xs n i) (m0 : 0 < m) (hm : m < n) (hp : (m - 1) / 2 = i) (hl : xs.getD m 0 < xs.getD i 0) (hmin : ∀ c, 0 < c → c < n → (c - 1) / 2 = i → xs.getD m 0 ≤ xs.getD c 0) : DnOk (swp xs i m) n m := by
  obtain ⟨h1, h2⟩ := h
  have him : i < m := by omega
  have A : ∀ x, (swp xs i m).getD x 0 = if x = m then xs.getD i 0 else if x = i then xs.getD m 0 else xs.getD x 0 := fun x => swp_at xs i m x (by omega) (by omega)
  constructor
  · intro c c0 hc hcp
    rw [A, A, if_neg hcp]
    by_cases e1 : c = m
    · subst e1
      rw [if_pos rfl, hp, if_pos rfl]
      omega
    · rw [if_neg e1]
      by_cases e2 : (c - 1) / 2 = i
      · rw [if_pos e2, if_neg (by omega)]
        exact hmin c c0 hc e2
      · rw [if_neg e2]
        have h3 := h1 c c0 hc e2
        by_cases e3 : c = i
        · rw [if_pos e3]
          subst e3
          have := h2 m m0 hm hp (by omega)
          exact this
        · rw [if_neg e3]
          exact h3
  · intro c c0 hc hcp _
    rw [A, A, if_neg (by omega), hp, if_pos rfl, if_neg (by omega), if_neg (by omega)]
    have h3 := h1 c c0 hc (by omega)
    rw [hcp] at h3
    exact h3
theorem dn_start {xs : List Int} (h : HeapN xs xs.length) (n : Nat) (hn : n + 1 = xs.length) : DnOk (swp xs 0 n) n 0 := by
  have A : ∀ x, (swp xs 0 n).getD x 0 = if x = n then xs.getD 0 0 else if x = 0 then xs.getD n 0 else xs.getD x 0 := fun x => swp_at xs 0 n x (by omega) (by omega)
  constructor
  · intro c c0 hc hcp
    rw [A, A, if_neg (by omega), if_neg (by omega), if_neg (by omega), if_neg (by omega)]
    exact h c c0 (by omega)
  · intro c c0 hc hp h0
    omega
theorem heap_root {xs : List Int} {n : Nat} (h : HeapN xs n) : ∀ c, c < n → xs.getD 0 0 ≤ xs.getD c 0 := by
  intro c
  induction c using Nat.strongRecOn with
  | _ c ih =>
    intro hc
    by_cases e : c = 0
    · subst e; exact Int.le_refl _
    · have h1 := h c (by omega) hc
      have h2 := ih ((c - 1) / 2) (by omega) (by omega)
      omega
/-- The first n of the list: what is left once the last is cut off. -/
theorem cut_heap {ys : List Int} {n : Nat} (h : HeapN ys n) (hn : n ≤ ys.length) : HeapN (ys.take n) (ys.take n).length := by
  have A : ∀ x, x < n → (ys.take n).getD x 0 = ys.getD x 0 := fun x hx => by
    simp only [List.getD]
    rw [List.getElem?_take, if_pos hx]
  intro c c0 hc
  rw [List.length_take] at hc
  rw [A _ (by omega), A _ (by omega)]
  exact h c c0 (by omega)
theorem cut_perm {ys : List Int} {n : Nat} (hn : n + 1 = ys.length) : (ys.getD n 0 :: ys.take n).Perm ys := by
  have h1 : ys = ys.take n ++ [ys.getD n 0] := by
    have : ys.take (n + 1) = ys.take n ++ [ys[n]] := List.take_succ_eq_append_getElem (by omega)
    rw [hn, List.take_length] at this
    have e : ys.getD n 0 = ys[n] := by simp [List.getD, show n < ys.length by omega]
    rw [e]
    exact this
  have h2 : (ys.take n ++ [ys.getD n 0]).Perm (ys.getD n 0 :: ys.take n) := List.perm_append_comm
  rw [← h1] at h2
  exact h2.symm
/-- An ascending list is a heap. -/
theorem asc_heap {xs : List Int} (h : xs.Pairwise (· ≤ ·)) : HeapN xs xs.length := by
  intro c c0 hc
  have h1 := List.pairwise_iff_getElem.1 h ((c - 1) / 2) c (by omega) hc (by omega)
  simpa [List.getD, hc, show (c - 1) / 2 < xs.length by omega] using h1

end Go.Proofs.Qxb6614980a
