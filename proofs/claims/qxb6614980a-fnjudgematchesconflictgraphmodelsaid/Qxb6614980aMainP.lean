/-
  What the verdict is checked against, as plain lists: no Go in sight.
-/
import Derived.Test.Qxb6614980aLaws
import Derived.Test.Qxb6614980aBld
import Derived.Test.Qxb6614980aCyc
import Derived.Test.Qxb6614980aSmall
namespace Go.Proofs.Qxb6614980a

/-- The accesses, out of the two tables. -/
def mkRow (t : List Int) (b : List Bool) : List (Nat × Bool × Nat) := (List.range t.length).map fun i => ((t.getD i 0).toNat, b.getD i false, (wposN b i).length)
def mk3 (T : List (List Int)) (B : List (List Bool)) : Rows3 := (List.range T.length).map fun j => mkRow (T.getD j []) (B.getD j [])
theorem mkRow_len (t : List Int) (b : List Bool) : (mkRow t b).length = t.length := by simp [mkRow]
theorem mkRow_at (t : List Int) (b : List Bool) (i : Nat) (hi : i < t.length) : (mkRow t b).getD i (0, false, 0) = ((t.getD i 0).toNat, b.getD i false, (wposN b i).length) := by simp [mkRow, List.getD, hi]
theorem mk3_len (T : List (List Int)) (B : List (List Bool)) : (mk3 T B).length = T.length := by simp [mk3]
theorem mk3_at (T : List (List Int)) (B : List (List Bool)) (j : Nat) (hj : j < T.length) : (mk3 T B).getD j [] = mkRow (T.getD j []) (B.getD j []) := by simp [mk3, List.getD, hj]
theorem mk3_acc (T : List (List Int)) (B : List (List Bool)) (j i : Nat) (hj : j < T.length) (hi : i < (T.getD j []).length) : acc (mk3 T B) j i = (((T.getD j []).getD i 0).toNat, (B.getD j []).getD i false, (wposN (B.getD j []) i).length) := by
  unfold acc
  rw [mk3_at _ _ _ hj, mkRow_at _ _ _ hi]
theorem mkRow_wt (t : List Int) (b : List Bool) (h : t.length = b.length) : wtOf (mkRow t b) = b := by
  apply List.ext_getElem
  · simp [wtOf, mkRow, h]
  · intro i h1 h2
    simp [wtOf, mkRow, List.getD, h2]
theorem mkRow_tx (t : List Int) (b : List Bool) (h : ∀ i, i < t.length → 0 ≤ t.getD i 0) : txOf (mkRow t b) = t := by
  apply List.ext_getElem
  · simp [txOf, mkRow]
  · intro i h1 h2
    have := h i h2
    simp only [List.getD, List.getElem?_eq_getElem h2, Option.getD_some] at this
    simp [txOf, mkRow, List.getD, h2]
    omega
theorem mk3_tx {txns : List Int} {T : List (List Int)} {B : List (List Bool)} (h : WFp txns T B) : (mk3 T B).map (fun r => ints (txOf r)) = T.map ints := by
  apply List.ext_getElem
  · simp [mk3]
  · intro j h1 h2
    have hj : j < T.length := by simpa using h2
    have e : T.getD j [] = T[j] := by simp [List.getD, hj]
    simp only [List.getElem_map, mk3, List.getElem_range]
    rw [mkRow_tx _ _ (fun i hi => (h.txn j hj i hi).1), e]
theorem mk3_wt {txns : List Int} {T : List (List Int)} {B : List (List Bool)} (h : WFp txns T B) : (mk3 T B).map (fun r => bools (wtOf r)) = B.map bools := by
  apply List.ext_getElem
  · simp [mk3, h.len]
  · intro j h1 h2
    have hj : j < B.length := by simpa using h2
    have hj' : j < T.length := by rw [h.len]; exact hj
    have e : B.getD j [] = B[j] := by simp [List.getD, hj]
    simp only [List.getElem_map, mk3, List.getElem_range]
    rw [mkRow_wt _ _ (h.row j hj'), e]
theorem mk3_rowlen (T : List (List Int)) (B : List (List Bool)) (j : Nat) (hj : j < T.length) : ((mk3 T B).getD j []).length = (T.getD j []).length := by rw [mk3_at _ _ _ hj, mkRow_len]
theorem mk3_lt {txns : List Int} {T : List (List Int)} {B : List (List Bool)} (h : WFp txns T B) : ∀ j i, j < (mk3 T B).length → i < ((mk3 T B).getD j []).length → (acc (mk3 T B) j i).1 < txns.length := by
  intro j i hj hi
  rw [mk3_len] at hj
  rw [mk3_rowlen _ _ _ hj] at hi
  rw [mk3_acc _ _ _ _ hj hi]
  have := h.txn j hj i hi
  show ((T.getD j []).getD i 0).toNat < _
  omega
theorem mk3_counts {txns : List Int} {T : List (List Int)} {B : List (List Bool)} (h : WFp txns T B) : Counts (mk3 T B) := by
  intro j i hj hi
  rw [mk3_len] at hj
  have hi' := hi
  rw [mk3_rowlen _ _ _ hj] at hi'
  rw [mk3_acc _ _ _ _ hj hi', mk3_at _ _ _ hj, mkRow_wt _ _ (h.row j hj)]
def lensT {α : Type} (T : List (List α)) (k : Nat) : Nat := ((T.map List.length).take k).sum
theorem lensT_succ {α : Type} (T : List (List α)) (k : Nat) (h : k < T.length) : lensT T (k + 1) = lensT T k + (T.getD k []).length := by
  unfold lensT
  rw [sum_take _ _ (by rw [List.length_map]; exact h)]
  congr 1
  simp [List.getD, h]
theorem mk3_total (T : List (List Int)) (B : List (List Bool)) : total (mk3 T B) = lensT T T.length := by
  unfold total lensT
  rw [List.take_of_length_le (by simp)]
  congr 1
  apply List.ext_getElem
  · simp [mk3]
  · intro j h1 h2
    have hj : j < T.length := by simpa using h2
    simp [mk3, mkRow, List.getD, hj]
theorem red_len (items : Rows3) (h1 : items.length ≤ 4096) (h2 : ∀ j, (items.getD j []).length ≤ 4096) : (redAll (bares items)).length ≤ 1099511627776 := by
  have := redTo_len 4096 (bares items) (fun row hrow => by
    obtain ⟨j, hj, rfl⟩ := List.getElem_of_mem hrow
    have e : (bares items)[j] = (bares items).getD j [] := by simp [List.getD, hj]
    rw [e, bares_at, bare_len]
    exact h2 j) (bares items).length (Nat.le_refl _)
  unfold redAll
  rw [bares_len] at this ⊢
  have h3 : items.length * (4096 * (4096 + 1)) ≤ 4096 * (4096 * (4096 + 1)) := Nat.mul_le_mul_right _ h1
  omega

/-! ### The places in the order -/
theorem pos_le {n : Nat} {es : List (Nat × Nat)} (hg : GoodE n es) {ord : List Nat} (h : Taken n es ord) (hl : ord.length = n) {P : List Int} (hP : ∀ q, q < n → P.getD (ord.getD q 0) 0 = (q : Int)) {u v : Nat} (hu : u < n) (hv : v < n) (r : Rch es u v) : 0 ≤ P.getD u 0 ∧ P.getD u 0 ≤ P.getD v 0 := by
  obtain ⟨i, hi, e1⟩ := List.getElem_of_mem (all_in h.nodup h.lt hl u hu)
  obtain ⟨k, hk, e2⟩ := List.getElem_of_mem (all_in h.nodup h.lt hl v hv)
  have e1' : ord.getD i 0 = u := by rw [← e1]; simp [List.getD, hi]
  have e2' : ord.getD k 0 = v := by rw [← e2]; simp [List.getD, hk]
  have h1 := hP i (by omega)
  have h2 := hP k (by omega)
  rw [e1'] at h1
  rw [e2'] at h2
  have := taken_rch hg h hl r hi hk e1' e2'
  omega

/-! ### The cycle -/
section
variable {n s : Nat} {items : Rows3} {D : List Int} {path : List Nat}
theorem cyc_pos (hP : Pth n s items D path) : ∀ i, i < path.length → 0 < D.getD (path.getD i 0) 0 := fun i hi => (hP.st i hi).2.1
theorem cyc_nodup (hP : Pth n s items D path) (hD : Dist n s items D) : (s :: path).Nodup := by
  rw [List.nodup_cons]
  constructor
  · intro hm
    obtain ⟨i, hi, e⟩ := List.getElem_of_mem hm
    have h1 := cyc_pos hP i hi
    rw [show path.getD i 0 = s by rw [← e]; simp [List.getD, hi], hD.ss.2] at h1
    omega
  · rw [List.Nodup, List.pairwise_iff_getElem]
    intro i j hi hj hij e
    have h1 := hP.fall i hi
    have h2 := hP.fall j hj
    have e1 : path.getD i 0 = path[i] := by simp [List.getD, hi]
    have e2 : path.getD j 0 = path[j] := by simp [List.getD, hj]
    rw [e1] at h1
    rw [e2, ← e] at h2
    omega
theorem cyc_len (hP : Pth n s items D path) (hD : Dist n s items D) : path.length + 1 ≤ n := by
  have := below_len (cyc_nodup hP hD) (fun x hx => by
    rcases List.mem_cons.1 hx with e | e
    · rw [e]; exact hD.ss.1
    · exact hP.lt x e)
  simpa using this
theorem cyc_at (i : Nat) (hi : i < path.length + 1) : (s :: path ++ [s]).getD i 0 = (s :: path).getD i 0 := by
  simp only [List.getD]
  rw [List.getElem?_append_left (by simpa using hi)]
theorem cyc_end : (s :: path ++ [s]).getD (path.length + 1) 0 = s := by
  simp only [List.getD]
  rw [List.getElem?_append_right (by simp)]
  simp
theorem cyc_lt (hP : Pth n s items D path) (hs : s < n) : ∀ v ∈ s :: path ++ [s], v < n := by
  intro v hv
  rcases List.mem_append.1 hv with q | q
  · rcases List.mem_cons.1 q with q | q
    · rw [q]; exact hs
    · exact hP.lt v q
  · simp at q; rw [q]; exact hs
theorem cyc_ed (hP : Pth n s items D path) (hD : Dist n s items D) (hl : D.getD (lastOf s path) 0 = 1) : ∀ i, i < path.length + 1 → Ed items ((s :: path ++ [s]).getD i 0) ((s :: path ++ [s]).getD (i + 1) 0) := by
  intro i hi
  rw [cyc_at i hi]
  by_cases e : i = path.length
  · subst e
    rw [cyc_end]
    have hlt : lastOf s path < n := by
      unfold lastOf
      have hm : (s :: path).getD path.length 0 ∈ s :: path := by
        have : (s :: path).getD path.length 0 = (s :: path)[path.length]'(by simp) := by simp [List.getD]
        rw [this]
        exact List.getElem_mem _
      rcases List.mem_cons.1 hm with q | q
      · rw [q]; exact hD.ss.1
      · exact hP.lt _ q
    obtain ⟨u, h1, h2, h3, h4⟩ := hD.par _ hlt (by omega)
    have h0 : D.getD u 0 = 0 := by omega
    have := hD.zero u h1 h0
    subst this
    exact h2
  · rw [cyc_at (i + 1) (by omega)]
    have := (hP.st i (by omega)).1
    simpa using this
theorem cyc_ne (hP : Pth n s items D path) (hD : Dist n s items D) {i k : Nat} (hik : i < k) (hk : k < path.length + 1) : (s :: path ++ [s]).getD i 0 ≠ (s :: path ++ [s]).getD k 0 := by
  rw [cyc_at i (by omega), cyc_at k hk]
  intro e
  have hn := cyc_nodup hP hD
  rw [List.Nodup, List.pairwise_iff_getElem] at hn
  have h1 : i < (s :: path).length := by simp; omega
  have h2 : k < (s :: path).length := by simpa using hk
  apply hn i k h1 h2 hik
  have e1 : (s :: path).getD i 0 = (s :: path)[i] := by rw [List.getD, List.getElem?_eq_getElem h1]; rfl
  have e2 : (s :: path).getD k 0 = (s :: path)[k] := by rw [List.getD, List.getElem?_eq_getElem h2]; rfl
  rw [← e1, ← e2, e]
end
theorem ed_conf {txns : List Int} {T : List (List Int)} {B : List (List Bool)} (h : WFp txns T B) {u v : Nat} (he : Ed (mk3 T B) u v) : ConfI T B (u : Int) (v : Int) := by
  obtain ⟨_, j, i, k, hj, hik, hk, h1, h2, h3⟩ := he
  rw [mk3_len] at hj
  rw [mk3_rowlen _ _ _ hj] at hk
  rw [mk3_acc _ _ _ _ hj (by omega)] at h1 h3
  rw [mk3_acc _ _ _ _ hj hk] at h2 h3
  have hi0 := (h.txn j hj i (by omega)).1
  have hk0 := (h.txn j hj k hk).1
  simp only at h1 h2 h3
  exact ⟨j, hj, i, k, hik, hk, by omega, by omega, h3⟩
end Go.Proofs.Qxb6614980a
