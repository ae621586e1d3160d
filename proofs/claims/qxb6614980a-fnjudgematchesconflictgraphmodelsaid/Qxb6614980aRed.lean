/-
  The reduced edges, as plain lists: no Go in sight.
-/
namespace Go.Proofs.Qxb6614980a

/-- An edge, unless it leads back to its own vertex. -/
def edge1 (u v : Nat) : List (Nat × Nat) := if u = v then [] else [(u, v)]

/-- What 'reduced' carries from access to access: the last writer, the readers since, the edges so far. -/
structure RSt where
  last : Option Nat
  readers : List Nat
  es : List (Nat × Nat)

/-- The edge from the last write. -/
def fromLast (l : Option Nat) (v : Nat) : List (Nat × Nat) := match l with
  | none => []
  | some u => edge1 u v

/-- One access. -/
def rstep (s : RSt) (a : Nat × Bool) : RSt :=
  if a.2 = true then ⟨some a.1, [], s.es ++ fromLast s.last a.1 ++ s.readers.flatMap (fun r => edge1 r a.1)⟩
  else ⟨s.last, s.readers ++ [a.1], s.es ++ fromLast s.last a.1⟩

theorem rstep_read (s : RSt) (t : Nat) : rstep s (t, false) = ⟨s.last, s.readers ++ [t], s.es ++ fromLast s.last t⟩ := by simp [rstep]
theorem rstep_write (s : RSt) (t : Nat) : rstep s (t, true) = ⟨some t, [], s.es ++ fromLast s.last t ++ s.readers.flatMap (fun r => edge1 r t)⟩ := by simp [rstep]

/-- The edges from the first k readers. -/
def fromReaders (es : List (Nat × Nat)) (rs : List Nat) (t k : Nat) : List (Nat × Nat) := es ++ (rs.take k).flatMap (fun r => edge1 r t)
theorem fromReaders_zero (es : List (Nat × Nat)) (rs : List Nat) (t : Nat) : fromReaders es rs t 0 = es := by simp [fromReaders]
theorem fromReaders_all (es : List (Nat × Nat)) (rs : List Nat) (t : Nat) : fromReaders es rs t rs.length = es ++ rs.flatMap (fun r => edge1 r t) := by simp [fromReaders]
theorem fromReaders_succ (es : List (Nat × Nat)) (rs : List Nat) (t k : Nat) (h : k < rs.length) : fromReaders es rs t (k + 1) = fromReaders es rs t k ++ edge1 (rs.getD k 0) t := by
  unfold fromReaders
  rw [List.take_succ_eq_append_getElem h, List.flatMap_append]
  simp [List.getD, h]

/-- The first q accesses of a row. -/
def rrow (es : List (Nat × Nat)) (row : List (Nat × Bool)) (q : Nat) : RSt := (row.take q).foldl rstep ⟨none, [], es⟩

/-- All edges of the first j rows. -/
def redTo (items : List (List (Nat × Bool))) (j : Nat) : List (Nat × Nat) := (items.take j).foldl (fun es row => (rrow es row row.length).es) []
def redAll (items : List (List (Nat × Bool))) : List (Nat × Nat) := redTo items items.length

theorem rrow_zero (es : List (Nat × Nat)) (row : List (Nat × Bool)) : rrow es row 0 = ⟨none, [], es⟩ := by simp [rrow]
theorem rrow_succ (es : List (Nat × Nat)) (row : List (Nat × Bool)) (q : Nat) (h : q < row.length) : rrow es row (q + 1) = rstep (rrow es row q) (row.getD q (0, false)) := by
  unfold rrow
  rw [List.take_succ_eq_append_getElem h, List.foldl_append]
  simp [List.getD, h]
theorem redTo_zero (items : List (List (Nat × Bool))) : redTo items 0 = [] := by simp [redTo]
theorem redTo_succ (items : List (List (Nat × Bool))) (j : Nat) (h : j < items.length) : redTo items (j + 1) = (rrow (redTo items j) (items.getD j []) (items.getD j []).length).es := by
  unfold redTo
  rw [List.take_succ_eq_append_getElem h, List.foldl_append]
  simp [List.getD, h]

theorem edge1_len (u v : Nat) : (edge1 u v).length ≤ 1 := by unfold edge1; split <;> simp
theorem fromLast_len (l : Option Nat) (v : Nat) : (fromLast l v).length ≤ 1 := by
  cases l
  · simp [fromLast]
  · exact edge1_len _ _
theorem flat_len (rs : List Nat) (v : Nat) : (rs.flatMap (fun r => edge1 r v)).length ≤ rs.length := by
  induction rs with
  | nil => simp
  | cons r rs ih =>
    have := edge1_len r v
    simp only [List.flatMap_cons, List.length_append, List.length_cons]
    omega

theorem fromReaders_len (es : List (Nat × Nat)) (rs : List Nat) (t k : Nat) : (fromReaders es rs t k).length ≤ es.length + rs.length := by
  have := flat_len (rs.take k) t
  have h2 : (rs.take k).length ≤ rs.length := List.length_take_le' _ _
  simp only [fromReaders, List.length_append]
  omega

theorem rrow_readers (es : List (Nat × Nat)) (row : List (Nat × Bool)) : ∀ q, q ≤ row.length → (rrow es row q).readers.length ≤ q := by
  intro q
  induction q with
  | zero => intro _; simp [rrow_zero]
  | succ q ih =>
    intro hq
    have := ih (by omega)
    rw [rrow_succ es row q (by omega)]
    unfold rstep
    split
    · simp
    · simp; omega

/-- A row of at most M accesses adds at most M + 1 edges an access. -/
theorem rrow_len (M : Nat) (es : List (Nat × Nat)) (row : List (Nat × Bool)) (hM : row.length ≤ M) : ∀ q, q ≤ row.length → (rrow es row q).es.length ≤ es.length + q * (M + 1) := by
  intro q
  induction q with
  | zero => intro _; simp [rrow_zero]
  | succ q ih =>
    intro hq
    have h1 := ih (by omega)
    have h2 := rrow_readers es row q (by omega)
    rw [rrow_succ es row q (by omega)]
    have h3 := fromLast_len (rrow es row q).last (row.getD q (0, false)).1
    have h4 := flat_len (rrow es row q).readers (row.getD q (0, false)).1
    have h5 : (q + 1) * (M + 1) = q * (M + 1) + (M + 1) := by rw [Nat.add_mul, Nat.one_mul]
    unfold rstep
    split
    · simp only [List.length_append]
      omega
    · simp only [List.length_append]
      omega

theorem redTo_len (M : Nat) (items : List (List (Nat × Bool))) (hM : ∀ row ∈ items, row.length ≤ M) : ∀ j, j ≤ items.length → (redTo items j).length ≤ j * (M * (M + 1)) := by
  intro j
  induction j with
  | zero => intro _; simp [redTo_zero]
  | succ j ih =>
    intro hj
    have h1 := ih (by omega)
    rw [redTo_succ items j (by omega)]
    have hrow : (items.getD j []).length ≤ M := by
      have : items.getD j [] = items[j] := by simp [List.getD, show j < items.length by omega]
      rw [this]
      exact hM _ (List.getElem_mem _)
    have h2 := rrow_len M (redTo items j) (items.getD j []) hrow _ (Nat.le_refl _)
    have h3 : (items.getD j []).length * (M + 1) ≤ M * (M + 1) := Nat.mul_le_mul_right _ hrow
    have h5 : (j + 1) * (M * (M + 1)) = j * (M * (M + 1)) + M * (M + 1) := by rw [Nat.add_mul, Nat.one_mul]
    omega

/-- Every edge joins two different vertices below n. -/
def GoodE (n : Nat) (es : List (Nat × Nat)) : Prop := ∀ e ∈ es, e.1 < n ∧ e.2 < n ∧ e.1 ≠ e.2
theorem good_edge1 {n u v : Nat} (hu : u < n) (hv : v < n) : GoodE n (edge1 u v) := by
  intro e he
  unfold edge1 at he
  split at he
  · cases he
  · next h => simp at he; subst he; exact ⟨hu, hv, h⟩
theorem GoodE.append {n : Nat} {xs ys : List (Nat × Nat)} (h : GoodE n xs) (k : GoodE n ys) : GoodE n (xs ++ ys) := by
  intro e he
  rcases List.mem_append.1 he with h1 | h1
  · exact h e h1
  · exact k e h1
theorem good_nil (n : Nat) : GoodE n [] := fun e he => by cases he
theorem good_last {n v : Nat} {l : Option Nat} (hl : ∀ u, l = some u → u < n) (hv : v < n) : GoodE n (fromLast l v) := by
  cases l with
  | none => exact good_nil n
  | some u => exact good_edge1 (hl u rfl) hv
theorem good_flat {n v : Nat} {rs : List Nat} (hr : ∀ r ∈ rs, r < n) (hv : v < n) : GoodE n (rs.flatMap fun r => edge1 r v) := by
  intro e he
  obtain ⟨r, h1, h2⟩ := List.mem_flatMap.1 he
  exact good_edge1 (hr r h1) hv e h2

theorem rrow_good (n : Nat) (es : List (Nat × Nat)) (row : List (Nat × Bool)) (he : GoodE n es) (hrow : ∀ a ∈ row, a.1 < n) : ∀ q, q ≤ row.length →
    GoodE n (rrow es row q).es ∧ (∀ u, (rrow es row q).last = some u → u < n) ∧ ∀ r ∈ (rrow es row q).readers, r < n := by
  intro q
  induction q with
  | zero => intro _; rw [rrow_zero]; exact ⟨he, (fun u h => by cases h), (fun r h => by cases h)⟩
  | succ q ih =>
    intro hq
    obtain ⟨h1, h2, h3⟩ := ih (by omega)
    rw [rrow_succ es row q (by omega)]
    have ha : (row.getD q (0, false)).1 < n := by
      have : row.getD q (0, false) = row[q] := by simp [List.getD, show q < row.length by omega]
      rw [this]
      exact hrow _ (List.getElem_mem _)
    generalize row.getD q (0, false) = a at ha ⊢
    obtain ⟨t, x⟩ := a
    replace ha : t < n := ha
    cases x
    · rw [rstep_read]
      refine ⟨h1.append (good_last h2 ha), h2, fun r hr => ?_⟩
      rcases List.mem_append.1 hr with h | h
      · exact h3 r h
      · simp at h; subst h; exact ha
    · rw [rstep_write]
      exact ⟨(h1.append (good_last h2 ha)).append (good_flat h3 ha), (fun u h => by cases h; exact ha), (fun r h => by cases h)⟩

theorem red_good (n : Nat) (items : List (List (Nat × Bool))) (h : ∀ row ∈ items, ∀ a ∈ row, a.1 < n) : ∀ j, j ≤ items.length → GoodE n (redTo items j) := by
  intro j
  induction j with
  | zero => intro _; rw [redTo_zero]; exact good_nil n
  | succ j ih =>
    intro hj
    rw [redTo_succ items j (by omega)]
    have : items.getD j [] = items[j] := by simp [List.getD, show j < items.length by omega]
    rw [this]
    exact (rrow_good n _ _ (ih (by omega)) (h _ (List.getElem_mem _)) _ (Nat.le_refl _)).1

end Go.Proofs.Qxb6614980a
