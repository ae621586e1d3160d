/-
  Breadth first, backwards from s, over the conflict edges: no Go in sight.
-/
import Derived.Test.Qxb6614980aKahn
namespace Go.Proofs.Qxb6614980a

abbrev Rows3 := List (List (Nat × Bool × Nat))
def acc (items : Rows3) (j i : Nat) : Nat × Bool × Nat := (items.getD j []).getD i (0, false, 0)
/-- An edge of the conflict graph. -/
def Ed (items : Rows3) (v u : Nat) : Prop := v ≠ u ∧ ∃ j i k, j < items.length ∧ i < k ∧ k < (items.getD j []).length ∧ (acc items j i).1 = v ∧ (acc items j k).1 = u ∧ ((acc items j i).2.1 = true ∨ (acc items j k).2.1 = true)

/-- The Graph's fields agree with each other. -/
structure GOk (n : Nat) (items : Rows3) (writes : List (List Int)) (ofs : List (List (Nat × Nat))) : Prop where
  lt : ∀ j i, j < items.length → i < (items.getD j []).length → (acc items j i).1 < n
  wl : writes.length = items.length
  ol : ofs.length = n
  wr : ∀ j k, j < items.length → k < (writes.getD j []).length → ∃ i : Nat, (writes.getD j []).getD k 0 = (i : Int) ∧ i < (items.getD j []).length ∧ (acc items j i).2.1 = true
  wc : ∀ j i, j < items.length → i < (items.getD j []).length → (acc items j i).2.2 ≤ (writes.getD j []).length
  wb : ∀ j i k, j < items.length → i < (items.getD j []).length → k < (acc items j i).2.2 → (writes.getD j []).getD k 0 < (i : Int)
  wa : ∀ j i k, j < items.length → i < (items.getD j []).length → (acc items j i).2.2 ≤ k → k < (writes.getD j []).length → (i : Int) ≤ (writes.getD j []).getD k 0
  all : ∀ j i, j < items.length → i < (items.getD j []).length → (acc items j i).2.1 = true → ∃ k, k < (writes.getD j []).length ∧ (writes.getD j []).getD k 0 = (i : Int)
  of_ : ∀ v, v < n → ∀ r ∈ ofs.getD v [], r.1 < items.length ∧ r.2 < (items.getD r.1 []).length ∧ (acc items r.1 r.2).1 = v
  fo : ∀ j i, j < items.length → i < (items.getD j []).length → (j, i) ∈ ofs.getD (acc items j i).1 []

theorem GOk.before {n : Nat} {items : Rows3} {writes : List (List Int)} {ofs : List (List (Nat × Nat))} (h : GOk n items writes ofs) {j i i' : Nat} (hj : j < items.length) (hi : i < (items.getD j []).length) (hl : i' < i) (hw : (acc items j i').2.1 = true) : ∃ k, k < (acc items j i).2.2 ∧ (writes.getD j []).getD k 0 = (i' : Int) := by
  obtain ⟨k, hk, e⟩ := h.all j i' hj (by omega) hw
  refine ⟨k, ?_, e⟩
  apply Decidable.byContradiction
  intro hn
  have := h.wa j i k hj hi (by omega) hk
  omega
theorem GOk.after {n : Nat} {items : Rows3} {writes : List (List Int)} {ofs : List (List (Nat × Nat))} (h : GOk n items writes ofs) {j i i' : Nat} (hj : j < items.length) (hi : i' < (items.getD j []).length) (hl : i < i') (hw : (acc items j i').2.1 = true) : ∃ k, (acc items j i).2.2 ≤ k ∧ k < (writes.getD j []).length ∧ (writes.getD j []).getD k 0 = (i' : Int) := by
  obtain ⟨k, hk, e⟩ := h.all j i' hj hi hw
  refine ⟨k, ?_, hk, e⟩
  apply Decidable.byContradiction
  intro hn
  have := h.wb j i k hj (by omega) (by omega)
  omega

theorem getD_set_eq {α : Type} (D : List α) (t : Nat) (x d : α) (ht : t < D.length) : (D.set t x).getD t d = x := by simp [List.getD, ht]
theorem getD_set_ne {α : Type} (D : List α) (t u : Nat) (x d : α) (h : u ≠ t) : (D.set t x).getD u d = D.getD u d := by
  have : t ≠ u := fun e => h e.symm
  simp [List.getD, this]

def reachD (D : List Int) (v t : Nat) : List Int := if D.getD t 0 < 0 then D.set t (D.getD v 0 + 1) else D
def reachQ (D Qu : List Int) (t : Nat) : List Int := if D.getD t 0 < 0 then Qu ++ [(t : Int)] else Qu

/-- v is being looked at: P: those looked at, v among them; Q: those in the queue. -/
structure Bp (n s : Nat) (items : Rows3) (D : List Int) (P Q : List Nat) (v : Nat) : Prop where
  len : D.length = n
  vis : ∀ x, x < n → (0 ≤ D.getD x 0 ∧ (x ∈ P ∨ x ∈ Q)) ∨ (D.getD x 0 = -1 ∧ x ∉ P ∧ x ∉ Q)
  lt : ∀ x, x ∈ P ∨ x ∈ Q → x < n
  nd : (P ++ Q).Nodup
  vP : v ∈ P
  ordQ : Q.Pairwise (fun a b => D.getD a 0 ≤ D.getD b 0)
  lo : ∀ b ∈ Q, D.getD v 0 ≤ D.getD b 0
  hi : ∀ x, x ∈ P ∨ x ∈ Q → D.getD x 0 ≤ D.getD v 0 + 1
  lo' : ∀ x ∈ P, D.getD x 0 ≤ D.getD v 0
  par : ∀ x, x < n → 0 < D.getD x 0 → ∃ u, u ∈ P ∧ Ed items x u ∧ D.getD x 0 = D.getD u 0 + 1
  zero : ∀ x, x < n → D.getD x 0 = 0 → x = s
  ss : s < n ∧ D.getD s 0 = 0
  done : ∀ u ∈ P, u ≠ v → ∀ x, Ed items x u → 0 ≤ D.getD x 0 ∧ D.getD x 0 ≤ D.getD u 0 + 1

theorem Bp.vn {n s : Nat} {items : Rows3} {D : List Int} {P Q : List Nat} {v : Nat} (h : Bp n s items D P Q v) : v < n ∧ 0 ≤ D.getD v 0 := by
  have h1 := h.lt v (.inl h.vP)
  refine ⟨h1, ?_⟩
  rcases h.vis v h1 with h2 | h2
  · exact h2.1
  · exact absurd h.vP h2.2.1

/-- What was found stays as it was. -/
theorem reach_keep {n s : Nat} {items : Rows3} {D : List Int} {P Q : List Nat} {v : Nat} (h : Bp n s items D P Q v) {t : Nat} (ht : t < n) : (∀ x, 0 ≤ D.getD x 0 → (reachD D v t).getD x 0 = D.getD x 0) ∧ 0 ≤ (reachD D v t).getD t 0 := by
  unfold reachD
  by_cases hn : D.getD t 0 < 0
  · rw [if_pos hn]
    refine ⟨fun x hx => ?_, ?_⟩
    · by_cases e : x = t
      · subst e; omega
      · rw [getD_set_ne _ _ _ _ _ e]
    · rw [getD_set_eq _ _ _ _ (by rw [h.len]; exact ht)]
      have := h.vn.2
      omega
  · rw [if_neg hn]
    exact ⟨fun _ _ => rfl, by omega⟩

theorem Bp.reach {n s : Nat} {items : Rows3} {D : List Int} {P Q : List Nat} {v t : Nat} (h : Bp n s items D P Q v) (ht : t < n) (he : t = v ∨ Ed items t v) :
    ∃ Q', Bp n s items (reachD D v t) P Q' v ∧ reachQ D (Q.map Int.ofNat) t = Q'.map Int.ofNat := by
  obtain ⟨hv, hv0⟩ := h.vn
  unfold reachD reachQ
  by_cases hn : D.getD t 0 < 0
  · rw [if_pos hn, if_pos hn]
    rcases h.vis t ht with h1 | ⟨h1, h2, h3⟩
    · omega
    have htv : t ≠ v := by intro e; subst e; omega
    have hE : Ed items t v := by rcases he with e | e; exact absurd e htv; exact e
    have A : ∀ x, x ≠ t → (D.set t (D.getD v 0 + 1)).getD x 0 = D.getD x 0 := fun x hx => getD_set_ne _ _ _ _ _ hx
    have At : (D.set t (D.getD v 0 + 1)).getD t 0 = D.getD v 0 + 1 := getD_set_eq _ _ _ _ (by rw [h.len]; exact ht)
    have Av := A v (fun e => htv e.symm)
    have AP : ∀ x ∈ P, (D.set t (D.getD v 0 + 1)).getD x 0 = D.getD x 0 := fun x hx => A x (fun e => h2 (e ▸ hx))
    have AQ : ∀ x ∈ Q, (D.set t (D.getD v 0 + 1)).getD x 0 = D.getD x 0 := fun x hx => A x (fun e => h3 (e ▸ hx))
    refine ⟨Q ++ [t], ⟨by rw [List.length_set]; exact h.len, fun x hx => ?_, fun x hx => ?_, ?_, h.vP, ?_, fun b hb => ?_, fun x hx => ?_, fun x hx => ?_, fun x hx h0 => ?_, fun x hx h0 => ?_, ?_, fun u hu hne x hxu => ?_⟩, by simp⟩
    · by_cases e : x = t
      · subst e
        rw [At]
        exact .inl ⟨by omega, .inr (List.mem_append.2 (.inr (List.mem_singleton_self _)))⟩
      · rw [A x e]
        rcases h.vis x hx with ⟨q1, q2⟩ | ⟨q1, q2, q3⟩
        · refine .inl ⟨q1, ?_⟩
          rcases q2 with q | q
          · exact .inl q
          · exact .inr (List.mem_append.2 (.inl q))
        · refine .inr ⟨q1, q2, fun hm => ?_⟩
          rcases List.mem_append.1 hm with q | q
          · exact q3 q
          · exact e (List.mem_singleton.1 q)
    · rcases hx with q | q
      · exact h.lt x (.inl q)
      · rcases List.mem_append.1 q with q | q
        · exact h.lt x (.inr q)
        · rw [List.mem_singleton.1 q]; exact ht
    · rw [← List.append_assoc, List.nodup_append]
      refine ⟨h.nd, by simp, fun a ha b hb => ?_⟩
      rw [List.mem_singleton.1 hb]
      intro e
      subst e
      rcases List.mem_append.1 ha with q | q
      · exact h2 q
      · exact h3 q
    · rw [List.pairwise_append]
      refine ⟨?_, by simp, fun a ha b hb => ?_⟩
      · refine List.Pairwise.imp_of_mem ?_ h.ordQ
        intro a b ha hb hab
        rw [AQ a ha, AQ b hb]
        exact hab
      · rw [List.mem_singleton.1 hb, At, AQ a ha]
        exact h.hi a (.inr ha)
    · rw [Av]
      rcases List.mem_append.1 hb with q | q
      · rw [AQ b q]; exact h.lo b q
      · rw [List.mem_singleton.1 q, At]; omega
    · rw [Av]
      rcases hx with q | q
      · rw [AP x q]; exact h.hi x (.inl q)
      · rcases List.mem_append.1 q with q | q
        · rw [AQ x q]; exact h.hi x (.inr q)
        · rw [List.mem_singleton.1 q, At]; omega
    · rw [Av, AP x hx]; exact h.lo' x hx
    · by_cases e : x = t
      · subst e
        exact ⟨v, h.vP, hE, by rw [At, Av]⟩
      · rw [A x e] at h0 ⊢
        obtain ⟨u, hu, h4, h5⟩ := h.par x hx h0
        exact ⟨u, hu, h4, by rw [AP u hu]; exact h5⟩
    · by_cases e : x = t
      · subst e
        rw [At] at h0
        omega
      · rw [A x e] at h0
        exact h.zero x hx h0
    · have hs : s ≠ t := by intro e; subst e; have := h.ss.2; omega
      rw [A s hs]
      exact h.ss
    · have hxn := h.done u hu hne x hxu
      have hxt : x ≠ t := by intro e; subst e; omega
      rw [A x hxt, AP u hu]
      exact hxn
  · rw [if_neg hn, if_neg hn]
    exact ⟨Q, h, rfl⟩

/-- Between two vertices of the queue. -/
structure Bq (n s : Nat) (items : Rows3) (D : List Int) (P Q : List Nat) : Prop where
  len : D.length = n
  vis : ∀ x, x < n → (0 ≤ D.getD x 0 ∧ (x ∈ P ∨ x ∈ Q)) ∨ (D.getD x 0 = -1 ∧ x ∉ P ∧ x ∉ Q)
  lt : ∀ x, x ∈ P ∨ x ∈ Q → x < n
  nd : (P ++ Q).Nodup
  ordQ : Q.Pairwise (fun a b => D.getD a 0 ≤ D.getD b 0)
  hiQ : ∀ b ∈ Q, ∀ x, x ∈ P ∨ x ∈ Q → D.getD x 0 ≤ D.getD b 0 + 1
  loQ : ∀ b ∈ Q, ∀ x ∈ P, D.getD x 0 ≤ D.getD b 0
  par : ∀ x, x < n → 0 < D.getD x 0 → ∃ u, u ∈ P ∧ Ed items x u ∧ D.getD x 0 = D.getD u 0 + 1
  zero : ∀ x, x < n → D.getD x 0 = 0 → x = s
  ss : s < n ∧ D.getD s 0 = 0
  done : ∀ u ∈ P, ∀ x, Ed items x u → 0 ≤ D.getD x 0 ∧ D.getD x 0 ≤ D.getD u 0 + 1

theorem Bq.pop {n s : Nat} {items : Rows3} {D : List Int} {P Q : List Nat} {v : Nat} (h : Bq n s items D P (v :: Q)) : Bp n s items D (P ++ [v]) Q v := by
  have hm : ∀ x, (x ∈ P ++ [v] ∨ x ∈ Q) ↔ (x ∈ P ∨ x ∈ v :: Q) := fun x => by
    simp only [List.mem_append, List.mem_cons, List.not_mem_nil, or_false]
    constructor
    · rintro ((h | h) | h)
      · exact .inl h
      · exact .inr (.inl h)
      · exact .inr (.inr h)
    · rintro (h | h | h)
      · exact .inl (.inl h)
      · exact .inl (.inr h)
      · exact .inr h
  have hp := List.pairwise_cons.1 h.ordQ
  refine ⟨h.len, fun x hx => ?_, fun x hx => h.lt x ((hm x).1 hx), ?_, List.mem_append.2 (.inr (List.mem_singleton_self v)), hp.2, hp.1, fun x hx => h.hiQ v (List.mem_cons_self ..) x ((hm x).1 hx), fun x hx => ?_, fun x hx h0 => ?_, h.zero, h.ss, fun u hu hne => ?_⟩
  · rcases h.vis x hx with ⟨q1, q2⟩ | ⟨q1, q2, q3⟩
    · exact .inl ⟨q1, (hm x).2 q2⟩
    · refine .inr ⟨q1, ?_, ?_⟩
      · intro hq
        rcases (hm x).1 (.inl hq) with q | q
        · exact q2 q
        · exact q3 q
      · intro hq
        rcases (hm x).1 (.inr hq) with q | q
        · exact q2 q
        · exact q3 q
  · rw [List.append_assoc]
    exact h.nd
  · rcases List.mem_append.1 hx with q | q
    · exact h.loQ v (List.mem_cons_self ..) x q
    · rw [List.mem_singleton.1 q]; exact Int.le_refl _
  · obtain ⟨u, hu, h1⟩ := h.par x hx h0
    exact ⟨u, List.mem_append.2 (.inl hu), h1⟩
  · rcases List.mem_append.1 hu with q | q
    · exact h.done u q
    · exact absurd (List.mem_singleton.1 q) hne

theorem Bp.close {n s : Nat} {items : Rows3} {D : List Int} {P Q : List Nat} {v : Nat} (h : Bp n s items D P Q v) (hd : ∀ x, x < n → Ed items x v → 0 ≤ D.getD x 0) (hlt : ∀ x u, Ed items x u → x < n) : Bq n s items D P Q := by
  refine ⟨h.len, h.vis, h.lt, h.nd, h.ordQ, fun b hb x hx => ?_, fun b hb x hx => ?_, h.par, h.zero, h.ss, fun u hu x hx => ?_⟩
  · have h1 := h.hi x hx
    have h2 := h.lo b hb
    omega
  · have h1 := h.lo' x hx
    have h2 := h.lo b hb
    omega
  · by_cases e : u = v
    · subst e
      have h1 := hd x (hlt x u hx) hx
      refine ⟨h1, ?_⟩
      rcases h.vis x (hlt x u hx) with ⟨_, q⟩ | ⟨q, _⟩
      · exact h.hi x q
      · omega
    · exact h.done u hu e x hx

theorem dist_chain {n : Nat} {D : List Int} (hpar : ∀ x, x < n → 0 < D.getD x 0 → ∃ u, u < n ∧ D.getD x 0 = D.getD u 0 + 1) : ∀ (k : Nat) (x : Nat), x < n → D.getD x 0 = (k : Int) → ∃ L : List Nat, L.length = k + 1 ∧ L.Nodup ∧ ∀ y ∈ L, y < n ∧ D.getD y 0 ≤ (k : Int) := by
  intro k
  induction k with
  | zero =>
    intro x hx h0
    refine ⟨[x], rfl, by simp, fun y hy => ?_⟩
    rw [List.mem_singleton.1 hy, h0]
    exact ⟨hx, Int.le_refl _⟩
  | succ k ih =>
    intro x hx h0
    obtain ⟨u, hu, he⟩ := hpar x hx (by omega)
    obtain ⟨L, h1, h2, h3⟩ := ih u hu (by omega)
    refine ⟨x :: L, by rw [List.length_cons, h1], List.nodup_cons.2 ⟨fun hm => ?_, h2⟩, fun y hy => ?_⟩
    · have := (h3 x hm).2; omega
    · rcases List.mem_cons.1 hy with rfl | q
      · exact ⟨hx, by omega⟩
      · have := h3 y q
        exact ⟨this.1, by omega⟩
theorem dist_lt {n : Nat} {D : List Int} (hpar : ∀ x, x < n → 0 < D.getD x 0 → ∃ u, u < n ∧ D.getD x 0 = D.getD u 0 + 1) {x : Nat} (hx : x < n) : D.getD x 0 < n := by
  by_cases h0 : 0 ≤ D.getD x 0
  · obtain ⟨k, hk⟩ := Int.eq_ofNat_of_zero_le h0
    obtain ⟨L, h1, h2, h3⟩ := dist_chain hpar k x hx hk
    have := below_len h2 (fun y hy => (h3 y hy).1)
    omega
  · omega
theorem Bp.bound {n s : Nat} {items : Rows3} {D : List Int} {P Q : List Nat} {v : Nat} (h : Bp n s items D P Q v) {x : Nat} (hx : x < n) : -1 ≤ D.getD x 0 ∧ D.getD x 0 < n := by
  refine ⟨?_, dist_lt (fun y hy h0 => ?_) hx⟩
  · rcases h.vis x hx with q | q
    · have := q.1; omega
    · have := q.1; omega
  · obtain ⟨u, hu, _, he⟩ := h.par y hy h0
    exact ⟨u, h.lt u (.inl hu), he⟩

/-- The distances to s. -/
structure Dist (n s : Nat) (items : Rows3) (D : List Int) : Prop where
  len : D.length = n
  ge : ∀ x, x < n → -1 ≤ D.getD x 0 ∧ D.getD x 0 < n
  ss : s < n ∧ D.getD s 0 = 0
  zero : ∀ x, x < n → D.getD x 0 = 0 → x = s
  par : ∀ x, x < n → 0 < D.getD x 0 → ∃ u, u < n ∧ Ed items x u ∧ D.getD x 0 = D.getD u 0 + 1 ∧ 0 ≤ D.getD u 0
  step : ∀ x u, u < n → 0 ≤ D.getD u 0 → Ed items x u → 0 ≤ D.getD x 0 ∧ D.getD x 0 ≤ D.getD u 0 + 1

theorem Bq.start (n s : Nat) (items : Rows3) (hs : s < n) : Bq n s items ((List.replicate n (-1)).set s 0) [] [s] := by
  have A : ∀ x, x < n → x ≠ s → ((List.replicate n (-1 : Int)).set s 0).getD x 0 = -1 := fun x hx hn => by
    rw [getD_set_ne _ _ _ _ _ hn]
    simp [List.getD, hx]
  have As : ((List.replicate n (-1 : Int)).set s 0).getD s 0 = 0 := getD_set_eq _ _ _ _ (by simpa using hs)
  refine ⟨by simp, fun x hx => ?_, fun x hx => ?_, by simp, by simp, fun b hb x hx => ?_, (fun b hb x hx => by cases hx), fun x hx h0 => ?_, fun x hx h0 => ?_, ⟨hs, As⟩, (fun u hu => by cases hu)⟩
  · by_cases e : x = s
    · subst e; rw [As]; exact .inl ⟨Int.le_refl _, .inr (List.mem_singleton_self _)⟩
    · rw [A x hx e]
      exact .inr ⟨rfl, by simp, fun h => e (List.mem_singleton.1 h)⟩
  · rcases hx with h | h
    · cases h
    · rw [List.mem_singleton.1 h]; exact hs
  · rcases hx with h | h
    · cases h
    · rw [List.mem_singleton.1 h, List.mem_singleton.1 hb]; omega
  · by_cases e : x = s
    · subst e; rw [As] at h0; omega
    · rw [A x hx e] at h0; omega
  · by_cases e : x = s
    · exact e
    · rw [A x hx e] at h0; omega

theorem Bq.fin {n s : Nat} {items : Rows3} {D : List Int} {P : List Nat} (h : Bq n s items D P []) : Dist n s items D := by
  have hP : ∀ x, x < n → 0 ≤ D.getD x 0 → x ∈ P := fun x hx h0 => by
    rcases h.vis x hx with ⟨_, q | q⟩ | ⟨q, _⟩
    · exact q
    · cases q
    · omega
  have hp0 : ∀ u ∈ P, 0 ≤ D.getD u 0 := fun u hu => by
    rcases h.vis u (h.lt u (.inl hu)) with q | ⟨_, q, _⟩
    · exact q.1
    · exact absurd hu q
  refine ⟨h.len, fun x hx => ⟨?_, dist_lt (fun y hy h0 => ?_) hx⟩, h.ss, h.zero, fun x hx h0 => ?_, fun x u hu h0 he => h.done u (hP u hu h0) x he⟩
  · rcases h.vis x hx with q | q
    · have := q.1; omega
    · have := q.1; omega
  · obtain ⟨u, hu, _, he⟩ := h.par y hy h0
    exact ⟨u, h.lt u (.inl hu), he⟩
  · obtain ⟨u, hu, h1, h2⟩ := h.par x hx h0
    exact ⟨u, h.lt u (.inl hu), h1, h2, hp0 u hu⟩

/-! ### The marks -/
/-- The first accesses of each item, and its first writes, have been found. -/
def MarkB (items : Rows3) (D Bs : List Int) : Prop := Bs.length = items.length ∧ ∀ j, j < items.length → ∃ m : Nat, Bs.getD j 0 = (m : Int) ∧ m ≤ (items.getD j []).length ∧ ∀ i, i < m → 0 ≤ D.getD (acc items j i).1 0
def MarkW (items : Rows3) (writes : List (List Int)) (D Ws : List Int) : Prop := Ws.length = items.length ∧ ∀ j, j < items.length → ∃ m : Nat, Ws.getD j 0 = (m : Int) ∧ m ≤ (writes.getD j []).length ∧ ∀ k, k < m → 0 ≤ D.getD (acc items j ((writes.getD j []).getD k 0).toNat).1 0
def Keep (D D' : List Int) : Prop := ∀ x, 0 ≤ D.getD x 0 → D'.getD x 0 = D.getD x 0
theorem Keep.refl (D : List Int) : Keep D D := fun _ _ => rfl
theorem Keep.trans {A B C : List Int} (h : Keep A B) (k : Keep B C) : Keep A C := fun x hx => by rw [k x (by rw [h x hx]; exact hx), h x hx]
theorem Keep.pos {A B : List Int} (h : Keep A B) {x : Nat} (hx : 0 ≤ A.getD x 0) : 0 ≤ B.getD x 0 := by rw [h x hx]; exact hx
theorem MarkB.keep {items : Rows3} {D D' Bs : List Int} (h : MarkB items D Bs) (k : Keep D D') : MarkB items D' Bs :=
  ⟨h.1, fun j hj => by obtain ⟨m, h1, h2, h3⟩ := h.2 j hj; exact ⟨m, h1, h2, fun i hi => k.pos (h3 i hi)⟩⟩
theorem MarkW.keep {items : Rows3} {writes : List (List Int)} {D D' Ws : List Int} (h : MarkW items writes D Ws) (k : Keep D D') : MarkW items writes D' Ws :=
  ⟨h.1, fun j hj => by obtain ⟨m, h1, h2, h3⟩ := h.2 j hj; exact ⟨m, h1, h2, fun i hi => k.pos (h3 i hi)⟩⟩
theorem MarkB.start (items : Rows3) (D : List Int) : MarkB items D (List.replicate items.length 0) :=
  ⟨by simp, fun j hj => ⟨0, by simp [List.getD, hj], Nat.zero_le _, fun i hi => by omega⟩⟩
theorem MarkW.start (items : Rows3) (writes : List (List Int)) (D : List Int) : MarkW items writes D (List.replicate items.length 0) :=
  ⟨by simp, fun j hj => ⟨0, by simp [List.getD, hj], Nat.zero_le _, fun i hi => by omega⟩⟩
theorem MarkB.set {items : Rows3} {D Bs : List Int} (h : MarkB items D Bs) {j m at_ : Nat} (hj : j < items.length) (hm : Bs.getD j 0 = (m : Int)) (ha : at_ ≤ (items.getD j []).length) (hd : ∀ i, i < at_ → 0 ≤ D.getD (acc items j i).1 0) : MarkB items D (Bs.set j ((max m at_ : Nat) : Int)) := by
  refine ⟨by rw [List.length_set]; exact h.1, fun j' hj' => ?_⟩
  by_cases e : j' = j
  · subst e
    obtain ⟨m', h1, h2, h3⟩ := h.2 j' hj'
    have hmm : m' = m := by omega
    subst hmm
    refine ⟨max m' at_, by rw [getD_set_eq _ _ _ _ (by rw [h.1]; exact hj)], by omega, fun i hi => ?_⟩
    by_cases hc : i < at_
    · exact hd i hc
    · exact h3 i (by omega)
  · rw [getD_set_ne _ _ _ _ _ e]
    exact h.2 j' hj'
theorem MarkW.set {items : Rows3} {writes : List (List Int)} {D Ws : List Int} (h : MarkW items writes D Ws) {j m at_ : Nat} (hj : j < items.length) (hm : Ws.getD j 0 = (m : Int)) (ha : at_ ≤ (writes.getD j []).length) (hd : ∀ k, k < at_ → 0 ≤ D.getD (acc items j ((writes.getD j []).getD k 0).toNat).1 0) : MarkW items writes D (Ws.set j ((max m at_ : Nat) : Int)) := by
  refine ⟨by rw [List.length_set]; exact h.1, fun j' hj' => ?_⟩
  by_cases e : j' = j
  · subst e
    obtain ⟨m', h1, h2, h3⟩ := h.2 j' hj'
    have hmm : m' = m := by omega
    subst hmm
    refine ⟨max m' at_, by rw [getD_set_eq _ _ _ _ (by rw [h.1]; exact hj)], by omega, fun i hi => ?_⟩
    by_cases hc : i < at_
    · exact hd i hc
    · exact h3 i (by omega)
  · rw [getD_set_ne _ _ _ _ _ e]
    exact h.2 j' hj'

/-- All that reaches v by the access r has been found. -/
def RefOk (items : Rows3) (writes : List (List Int)) (D : List Int) (r : Nat × Nat) : Prop :=
  ((acc items r.1 r.2).2.1 = true → ∀ i, i < r.2 → 0 ≤ D.getD (acc items r.1 i).1 0) ∧ ((acc items r.1 r.2).2.1 = false → ∀ k, k < (acc items r.1 r.2).2.2 → 0 ≤ D.getD (acc items r.1 ((writes.getD r.1 []).getD k 0).toNat).1 0)
theorem RefOk.keep {items : Rows3} {writes : List (List Int)} {D D' : List Int} {r : Nat × Nat} (h : RefOk items writes D r) (k : Keep D D') : RefOk items writes D' r :=
  ⟨fun hw i hi => k.pos (h.1 hw i hi), fun hw i hi => k.pos (h.2 hw i hi)⟩
theorem refs_done {n : Nat} {items : Rows3} {writes : List (List Int)} {ofs : List (List (Nat × Nat))} (h : GOk n items writes ofs) {D : List Int} {v : Nat} (hr : ∀ r ∈ ofs.getD v [], RefOk items writes D r) : ∀ x, x < n → Ed items x v → 0 ≤ D.getD x 0 := by
  intro x _ he
  obtain ⟨_, j, i, k, hj, hik, hk, h1, h2, h3⟩ := he
  have hm := h.fo j k hj hk
  rw [h2] at hm
  have hr' := hr _ hm
  cases hw : (acc items j k).2.1
  · have hwi : (acc items j i).2.1 = true := by
      rcases h3 with q | q
      · exact q
      · rw [hw] at q; cases q
    obtain ⟨c, hc, ec⟩ := h.before hj hk hik hwi
    have := hr'.2 hw c hc
    rw [ec, Int.toNat_natCast, h1] at this
    exact this
  · have := hr'.1 hw i hik
    rw [h1] at this
    exact this
theorem ed_lt {n : Nat} {items : Rows3} {writes : List (List Int)} {ofs : List (List (Nat × Nat))} (h : GOk n items writes ofs) {x u : Nat} (he : Ed items x u) : x < n ∧ u < n := by
  obtain ⟨_, j, i, k, hj, hik, hk, h1, h2, _⟩ := he
  exact ⟨by rw [← h1]; exact h.lt j i hj (by omega), by rw [← h2]; exact h.lt j k hj hk⟩

end Go.Proofs.Qxb6614980a
