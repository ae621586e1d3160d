/-
  What is plain about the text of a UUID: no Go in sight.
-/
namespace Go.Proofs.Qxb6609019a

/-- A lower-case hex digit. -/
def isHexN (n : Int) : Bool := decide (48 ≤ n ∧ n ≤ 57) || decide (97 ≤ n ∧ n ≤ 102)
/-- A place of a dash. -/
def dashAt (j : Nat) : Bool := j == 8 || j == 13 || j == 18 || j == 23
/-- The byte n is good at place j. -/
def okAt (j : Nat) (n : Int) : Bool := if dashAt j = true then n == 45 else isHexN n
/-- The bytes l are the text of a UUID. -/
def uuidL (l : List Int) : Bool := l.length == 36 && (List.range 36).all fun j => okAt j (l.getD j 0)
/-- A string's bytes as numbers. -/
def sb (s : ByteArray) : List Int := s.data.toList.map fun b => (b.toNat : Int)

theorem sb_length (s : ByteArray) : (sb s).length = s.size := by
  unfold sb
  rw [List.length_map]
  rfl

theorem uuid_iff (l : List Int) : uuidL l = true ↔ l.length = 36 ∧ ∀ j, j < 36 → okAt j (l.getD j 0) = true := by
  simp [uuidL]

theorem uuid_of (l : List Int) (h : l.length = 36) (g : ∀ j, j < 36 → okAt j (l.getD j 0) = true) : uuidL l = true := (uuid_iff l).2 ⟨h, g⟩

theorem uuid_len (l : List Int) (h : l.length ≠ 36) : uuidL l = false := by
  rw [Bool.eq_false_iff]
  intro e
  exact h ((uuid_iff l).1 e).1

theorem uuid_bad (l : List Int) (j : Nat) (hj : j < 36) (h : okAt j (l.getD j 0) = false) : uuidL l = false := by
  rw [Bool.eq_false_iff]
  intro e
  rw [((uuid_iff l).1 e).2 j hj] at h
  cases h

theorem hex_dash (n : Int) (h : isHexN n = true) : n ≠ 45 := by
  intro e
  subst e
  revert h
  decide

/-- One byte of a good text turned. -/
theorem uuid_set (l : List Int) (hl : uuidL l = true) (i : Nat) (hi : i < 36) (c : Int) : uuidL (l.set i c) = (if l.getD i 0 = 45 then c == 45 else isHexN c) := by
  obtain ⟨h36, hg⟩ := (uuid_iff l).1 hl
  have hi' := hg i hi
  have hok : okAt i c = (if l.getD i 0 = 45 then c == 45 else isHexN c) := by
    unfold okAt at hi' ⊢
    by_cases hd : dashAt i = true
    · rw [if_pos hd] at hi' ⊢
      rw [if_pos (by simpa using hi')]
    · rw [if_neg hd] at hi' ⊢
      rw [if_neg (hex_dash _ hi')]
  rw [← hok]
  have hself : (l.set i c).getD i 0 = c := by simp [List.getD, h36, hi]
  cases hc : okAt i c
  · exact uuid_bad _ i hi (by rw [hself, hc])
  · refine uuid_of _ (by simp [h36]) fun j hj => ?_
    by_cases e : j = i
    · subst e; rw [hself, hc]
    · have : (l.set i c).getD j 0 = l.getD j 0 := by
        simp only [List.getD]
        rw [List.getElem?_set_ne (by omega)]
      rw [this]
      exact hg j hj

end Go.Proofs.Qxb6609019a
