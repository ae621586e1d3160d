/-
  What zzpb1Build derives, as plain lists: no Go in sight.
-/
import Derived.Test.Qxb6614980aGraph15
import Derived.Test.Qxb6614980aBfs
namespace Go.Proofs.Qxb6614980a

/-- The places of the writes among the first i. -/
def wposN (bs : List Bool) (i : Nat) : List Nat := (List.range i).filter fun q => bs.getD q false
theorem wposN_succ (bs : List Bool) (i : Nat) : wposN bs (i + 1) = wposN bs i ++ if bs.getD i false = true then [i] else [] := by
  unfold wposN
  rw [List.range_succ, List.filter_append]
  congr 1
  by_cases h : bs.getD i false = true
  · rw [if_pos h, List.filter_cons_of_pos (by exact h)]; rfl
  · rw [if_neg h, List.filter_cons_of_neg (by exact h)]; rfl
theorem wposN_mem {bs : List Bool} {i x : Nat} : x ∈ wposN bs i ↔ x < i ∧ bs.getD x false = true := by
  unfold wposN
  rw [List.mem_filter, List.mem_range]
theorem wposN_split (bs : List Bool) (i : Nat) : ∀ d, ∃ r, wposN bs (i + d) = wposN bs i ++ r ∧ ∀ x ∈ r, i ≤ x := by
  intro d
  induction d with
  | zero => exact ⟨[], by simp, fun x hx => by cases hx⟩
  | succ d ih =>
    obtain ⟨r, h1, h2⟩ := ih
    rw [← Nat.add_assoc, wposN_succ, h1]
    refine ⟨r ++ _, List.append_assoc _ _ _, fun x hx => ?_⟩
    rcases List.mem_append.1 hx with q | q
    · exact h2 x q
    · split at q
      · simp at q; omega
      · cases q
theorem wposN_len (bs : List Bool) (i : Nat) : (wposN bs i).length ≤ i := by
  have := List.length_filter_le (fun q => bs.getD q false) (List.range i)
  rw [List.length_range] at this
  exact this

/-- All accesses, in order: those of the first j items and the first k of the next. -/
def allTo (items : Rows3) : Nat → Nat → List (Nat × Nat)
  | 0, k => (List.range k).map fun i => (0, i)
  | j + 1, k => allTo items j (items.getD j []).length ++ (List.range k).map fun i => (j + 1, i)
theorem allTo_succ (items : Rows3) (j k : Nat) : allTo items j (k + 1) = allTo items j k ++ [(j, k)] := by
  cases j with
  | zero => simp [allTo, List.range_succ]
  | succ j => simp [allTo, List.range_succ]
theorem allTo_next (items : Rows3) (j : Nat) : allTo items (j + 1) 0 = allTo items j (items.getD j []).length := by simp [allTo]
theorem allTo_mem (items : Rows3) : ∀ j k r, r ∈ allTo items j k ↔ (r.1 < j ∧ r.2 < (items.getD r.1 []).length) ∨ (r.1 = j ∧ r.2 < k) := by
  intro j
  induction j with
  | zero =>
    intro k r
    simp only [allTo, List.mem_map, List.mem_range]
    constructor
    · rintro ⟨i, hi, rfl⟩; exact .inr ⟨rfl, hi⟩
    · rintro (⟨h, _⟩ | ⟨h1, h2⟩)
      · omega
      · exact ⟨r.2, h2, by rw [← h1]⟩
  | succ j ih =>
    intro k r
    simp only [allTo, List.mem_append, ih, List.mem_map, List.mem_range]
    constructor
    · rintro ((⟨h1, h2⟩ | ⟨h1, h2⟩) | ⟨i, hi, rfl⟩)
      · exact .inl ⟨by omega, h2⟩
      · exact .inl ⟨by omega, by rw [h1]; exact h2⟩
      · exact .inr ⟨rfl, hi⟩
    · rintro (⟨h1, h2⟩ | ⟨h1, h2⟩)
      · by_cases e : r.1 = j
        · exact .inl (.inr ⟨e, by rw [← e]; exact h2⟩)
        · exact .inl (.inl ⟨by omega, h2⟩)
      · exact .inr ⟨r.2, h2, by rw [← h1]⟩
/-- How many accesses there are. -/
def total (items : Rows3) : Nat := (items.map List.length).sum
theorem sum_take (xs : List Nat) : ∀ j, j < xs.length → (xs.take (j + 1)).sum = (xs.take j).sum + xs.getD j 0 := by
  intro j hj
  rw [List.take_succ_eq_append_getElem hj, List.sum_append]
  simp [List.getD, hj]
theorem sum_take_le (xs : List Nat) : ∀ j, (xs.take j).sum ≤ xs.sum := by
  intro j
  have := congrArg List.sum (List.take_append_drop j xs)
  rw [List.sum_append] at this
  omega
theorem lenRow (items : Rows3) (j : Nat) : (items.map List.length).getD j 0 = (items.getD j []).length := by
  simp only [List.getD, List.getElem?_map]
  cases items[j]? <;> rfl
theorem allTo_len (items : Rows3) : ∀ j k, j ≤ items.length → (allTo items j k).length = ((items.map List.length).take j).sum + k := by
  intro j
  induction j with
  | zero => intro k _; simp [allTo]
  | succ j ih =>
    intro k hj
    simp only [allTo, List.length_append, List.length_map, List.length_range]
    rw [ih _ (by omega), sum_take _ _ (by rw [List.length_map]; omega), lenRow]
theorem row_le (items : Rows3) (j : Nat) : (items.getD j []).length ≤ total items := by
  unfold total
  by_cases h : j < items.length
  · have h1 := sum_take (items.map List.length) j (by rw [List.length_map]; exact h)
    have h2 := sum_take_le (items.map List.length) (j + 1)
    rw [lenRow] at h1
    omega
  · simp [List.getD, List.getElem?_eq_none (Nat.le_of_not_lt h)]
theorem allTo_le (items : Rows3) (j k : Nat) (hj : j < items.length) (hk : k ≤ (items.getD j []).length) : (allTo items j k).length ≤ total items := by
  rw [allTo_len items j k (by omega)]
  have h1 := sum_take (items.map List.length) j (by rw [List.length_map]; exact hj)
  have h2 := sum_take_le (items.map List.length) (j + 1)
  rw [lenRow] at h1
  unfold total
  omega
theorem allTo_end (items : Rows3) : (allTo items items.length 0).length ≤ total items := by
  rw [allTo_len _ _ _ (Nat.le_refl _)]
  exact sum_take_le _ _

def refsTo (items : Rows3) (j k v : Nat) : List (Nat × Nat) := (allTo items j k).filter fun r => decide ((acc items r.1 r.2).1 = v)
theorem refsTo_succ (items : Rows3) (j k v : Nat) : refsTo items j (k + 1) v = refsTo items j k v ++ if (acc items j k).1 = v then [(j, k)] else [] := by
  unfold refsTo
  rw [allTo_succ, List.filter_append]
  congr 1
  by_cases h : (acc items j k).1 = v <;> simp [h]
theorem refsTo_next (items : Rows3) (j v : Nat) : refsTo items (j + 1) 0 v = refsTo items j (items.getD j []).length v := by
  unfold refsTo
  rw [allTo_next]
theorem refsTo_zero (items : Rows3) (v : Nat) : refsTo items 0 0 v = [] := by simp [refsTo, allTo]
theorem refsTo_len (items : Rows3) (j k v : Nat) : (refsTo items j k v).length ≤ (allTo items j k).length := List.length_filter_le _ _

/-- Each access tells how many writes there are before it. -/
def Counts (items : Rows3) : Prop := ∀ j i, j < items.length → i < (items.getD j []).length → (acc items j i).2.2 = (wposN (wtOf (items.getD j [])) i).length
def writesOf (items : Rows3) : List (List Int) := items.map fun r => nats (wposN (wtOf r) r.length)
def ofsOf (n : Nat) (items : Rows3) : List (List (Nat × Nat)) := (List.range n).map (refsTo items items.length 0)
theorem wtOf_at (row : List (Nat × Bool × Nat)) (i : Nat) : (wtOf row).getD i false = (row.getD i (0, false, 0)).2.1 := by
  simp only [wtOf, List.getD, List.getElem?_map]
  cases row[i]? <;> rfl
theorem writesOf_at (items : Rows3) (j : Nat) : (writesOf items).getD j [] = nats (wposN (wtOf (items.getD j [])) (items.getD j []).length) := by
  simp only [writesOf, List.getD, List.getElem?_map]
  cases items[j]? with
  | none => rfl
  | some r => rfl
theorem ofsOf_at (n : Nat) (items : Rows3) (v : Nat) (hv : v < n) : (ofsOf n items).getD v [] = refsTo items items.length 0 v := by
  simp [ofsOf, List.getD, hv]
theorem natsD (xs : List Nat) (k : Nat) (h : k < xs.length) : (nats xs).getD k 0 = ((xs[k] : Nat) : Int) := by simp [nats, List.getD, h]

theorem gok_of (n : Nat) (items : Rows3) (hlt : ∀ j i, j < items.length → i < (items.getD j []).length → (acc items j i).1 < n) (hc : Counts items) : GOk n items (writesOf items) (ofsOf n items) := by
  have key : ∀ j i, i ≤ (items.getD j []).length → ∃ r, wposN (wtOf (items.getD j [])) (items.getD j []).length = wposN (wtOf (items.getD j [])) i ++ r ∧ ∀ x ∈ r, i ≤ x := by
    intro j i hi
    obtain ⟨r, h1, h2⟩ := wposN_split (wtOf (items.getD j [])) i ((items.getD j []).length - i)
    rw [show i + ((items.getD j []).length - i) = (items.getD j []).length by omega] at h1
    exact ⟨r, h1, h2⟩
  refine ⟨hlt, by simp [writesOf], by simp [ofsOf], ?_, ?_, ?_, ?_, ?_, ?_, ?_⟩
  · intro j k hj hk
    rw [writesOf_at] at hk ⊢
    rw [nats_len] at hk
    have hm := List.getElem_mem hk
    obtain ⟨h1, h2⟩ := wposN_mem.1 hm
    rw [wtOf_at] at h2
    exact ⟨_, natsD _ _ hk, h1, h2⟩
  · intro j i hj hi
    rw [writesOf_at, nats_len, hc j i hj hi]
    obtain ⟨r, h1, _⟩ := key j i (by omega)
    rw [h1, List.length_append]
    omega
  · intro j i k hj hi hk
    rw [hc j i hj hi] at hk
    rw [writesOf_at]
    obtain ⟨r, h1, _⟩ := key j i (by omega)
    have hk2 : k < (wposN (wtOf (items.getD j [])) (items.getD j []).length).length := by rw [h1, List.length_append]; omega
    rw [natsD _ _ hk2]
    have e : (wposN (wtOf (items.getD j [])) (items.getD j []).length)[k] = (wposN (wtOf (items.getD j [])) i)[k] := by
      simp only [h1]
      exact List.getElem_append_left hk
    rw [e]
    have := (wposN_mem.1 (List.getElem_mem hk)).1
    omega
  · intro j i k hj hi hk hk2
    rw [hc j i hj hi] at hk
    rw [writesOf_at] at hk2 ⊢
    rw [nats_len] at hk2
    obtain ⟨r, h1, h2⟩ := key j i (by omega)
    rw [natsD _ _ hk2]
    have hk3 : k - (wposN (wtOf (items.getD j [])) i).length < r.length := by rw [h1, List.length_append] at hk2; omega
    have e : (wposN (wtOf (items.getD j [])) (items.getD j []).length)[k] = r[k - (wposN (wtOf (items.getD j [])) i).length] := by
      simp only [h1]
      exact List.getElem_append_right hk
    rw [e]
    have := h2 _ (List.getElem_mem hk3)
    omega
  · intro j i hj hi hw
    rw [writesOf_at]
    have hm : i ∈ wposN (wtOf (items.getD j [])) (items.getD j []).length := wposN_mem.2 ⟨hi, by rw [wtOf_at]; exact hw⟩
    obtain ⟨k, hk, e⟩ := List.getElem_of_mem hm
    exact ⟨k, by rw [nats_len]; exact hk, by rw [natsD _ _ hk, e]⟩
  · intro v hv r hr
    rw [ofsOf_at _ _ _ hv] at hr
    unfold refsTo at hr
    obtain ⟨h1, h2⟩ := List.mem_filter.1 hr
    rcases (allTo_mem items _ _ _).1 h1 with q | ⟨_, q⟩
    · exact ⟨q.1, q.2, of_decide_eq_true h2⟩
    · omega
  · intro j i hj hi
    rw [ofsOf_at _ _ _ (hlt j i hj hi)]
    unfold refsTo
    exact List.mem_filter.2 ⟨(allTo_mem items _ _ _).2 (.inl ⟨hj, hi⟩), decide_eq_true rfl⟩
end Go.Proofs.Qxb6614980a
