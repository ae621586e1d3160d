/-
  Taking vertices that no vertex left has an edge to, the lowest first: no Go in sight.
-/
import Derived.Test.Qxb6614980aCsr
namespace Go.Proofs.Qxb6614980a

/-! ### Counting -/
theorem below_len {l : List Nat} {n : Nat} (hd : l.Nodup) (hb : ∀ x ∈ l, x < n) : l.length ≤ n := by
  have := hd.length_le_of_subset (l₂ := List.range n) (fun x hx => List.mem_range.2 (hb x hx))
  rwa [List.length_range] at this
theorem all_in {l : List Nat} {n : Nat} (hd : l.Nodup) (hb : ∀ x ∈ l, x < n) (hl : l.length = n) (a : Nat) (ha : a < n) : a ∈ l := by
  apply Decidable.byContradiction
  intro hn
  have : (a :: l).length ≤ n := below_len (List.nodup_cons.2 ⟨hn, hd⟩) (fun x hx => by
    rcases List.mem_cons.1 hx with rfl | h
    · exact ha
    · exact hb x h)
  rw [List.length_cons] at this
  omega
theorem perm_range {l : List Nat} {n : Nat} (hd : l.Nodup) (hb : ∀ x ∈ l, x < n) (hl : l.length = n) : l.Perm (List.range n) := by
  rw [List.perm_iff_count]
  intro a
  rw [hd.count, List.nodup_range.count]
  by_cases h : a < n
  · rw [if_pos (all_in hd hb hl a h), if_pos (List.mem_range.2 h)]
  · rw [if_neg (fun h1 => h (hb a h1)), if_neg (fun h1 => h (List.mem_range.1 h1))]

/-- The targets as they are laid out are the edges' targets. -/
theorem toAt_perm (es : List (Nat × Nat)) (T : List Int) (hl : T.length = es.length) (h : ToAt es T es.length) : T.Perm (es.map fun e => (e.2 : Int)) := by
  have h1 : ((List.range es.length).map (pos es)).Perm (List.range es.length) := by
    apply perm_range
    · rw [List.Nodup, List.pairwise_map]
      refine List.pairwise_lt_range.imp_of_mem ?_
      intro a b ha hb hab
      exact pos_inj es a b hab (List.mem_range.1 hb)
    · intro x hx
      obtain ⟨k, hk, rfl⟩ := List.mem_map.1 hx
      exact pos_len es k (List.mem_range.1 hk)
    · simp
  have h2 := h1.map (fun p => T.getD p 0)
  have e1 : (List.range es.length).map (fun p => T.getD p 0) = T := by
    apply List.ext_getElem
    · simp [hl]
    · intro i a b
      simp [List.getD, b]
  have e2 : ((List.range es.length).map (pos es)).map (fun p => T.getD p 0) = es.map fun e => (e.2 : Int) := by
    apply List.ext_getElem
    · simp
    · intro i a b
      simp at a
      have := h i a
      simp only [List.getElem_map, List.getElem_range]
      rw [this]
      simp [List.getD, a]
  rw [e1, e2] at h2
  exact h2.symm

/-! ### What leaves a vertex -/
def outs (es : List (Nat × Nat)) (u : Nat) : List Nat := (es.filter fun e => decide (e.1 = u)).map Prod.snd
theorem outs_len (es : List (Nat × Nat)) (u : Nat) : (outs es u).length = cnt es u es.length := by
  unfold outs cnt
  rw [List.length_map, List.take_length]
theorem outs_mem {es : List (Nat × Nat)} {u v : Nat} : v ∈ outs es u ↔ (u, v) ∈ es := by
  unfold outs
  simp only [List.mem_map, List.mem_filter, decide_eq_true_eq]
  constructor
  · rintro ⟨⟨a, b⟩, ⟨h1, h2⟩, h3⟩
    cases h2; cases h3; exact h1
  · intro h
    exact ⟨(u, v), ⟨h, rfl⟩, rfl⟩
theorem outs_at (es : List (Nat × Nat)) (u : Nat) : ∀ k, k < es.length → (es.getD k (0, 0)).1 = u → (outs es u).getD (cnt es u k) 0 = (es.getD k (0, 0)).2 := by
  induction es with
  | nil => intro k hk; simp at hk
  | cons e es ih =>
    intro k hk he
    cases k with
    | zero =>
      rw [cnt_zero]
      simp at he
      subst he
      simp [outs, List.getD]
    | succ k =>
      have h1 := ih k (by simpa using hk) (by simpa [List.getD] using he)
      by_cases h : e.1 = u
      · have e1 : cnt (e :: es) u (k + 1) = cnt es u k + 1 := by simp [cnt, h]
        have e2 : outs (e :: es) u = e.2 :: outs es u := by simp [outs, h]
        rw [e1, e2]
        simpa [List.getD] using h1
      · have e1 : cnt (e :: es) u (k + 1) = cnt es u k := by simp [cnt, h]
        have e2 : outs (e :: es) u = outs es u := by simp [outs, h]
        rw [e1, e2]
        simpa [List.getD] using h1
/-- u's stretch of the targets. -/
theorem stretch (es : List (Nat × Nat)) (T : List Int) (h : ToAt es T es.length) (u c : Nat) (hc : c < (outs es u).length) : T.getD (off es u + c) 0 = ((outs es u).getD c 0 : Int) := by
  rw [outs_len] at hc
  obtain ⟨i, hi, h1, h2⟩ := pos_onto es u c es.length (Nat.le_refl _) hc
  have h3 := h i hi
  have h4 := outs_at es u i hi h1
  unfold pos at h3
  rw [h1, h2] at h3
  rw [h2] at h4
  rw [h3, h4]
theorem off_outs (es : List (Nat × Nat)) (u : Nat) : off es (u + 1) = off es u + (outs es u).length := by rw [off_succ, outs_len]

/-! ### Edges into a vertex from vertices left -/
def inN (es : List (Nat × Nat)) (done : List Nat) (v : Nat) : Nat := (es.filter fun e => decide (e.2 = v ∧ e.1 ∉ done)).length
theorem inN_zero {es : List (Nat × Nat)} {done : List Nat} {v : Nat} : inN es done v = 0 ↔ ∀ e ∈ es, e.2 = v → e.1 ∈ done := by
  unfold inN
  rw [List.length_eq_zero_iff, List.filter_eq_nil_iff]
  constructor
  · intro h e he hv
    have := h e he
    simp only [decide_eq_true_eq, not_and, Classical.not_not] at this
    exact this hv
  · intro h e he
    simp only [decide_eq_true_eq, not_and, Classical.not_not]
    exact h e he
theorem inN_push (es : List (Nat × Nat)) (done : List Nat) (u v : Nat) (hu : u ∉ done) : inN es done v = inN es (done ++ [u]) v + (outs es u).count v := by
  unfold inN outs
  induction es with
  | nil => rfl
  | cons e es ih =>
    obtain ⟨a, b⟩ := e
    simp only [List.filter_cons]
    by_cases hb : b = v
    · subst hb
      by_cases ha : a = u
      · subst ha
        simp [hu] at ih ⊢
        omega
      · by_cases hd : a ∈ done
        · simp [ha, hd] at ih ⊢
          omega
        · simp [ha, hd] at ih ⊢
          omega
    · by_cases ha : a = u
      · subst ha
        simp [hb] at ih ⊢
        omega
      · simp [hb, ha] at ih ⊢
        omega
theorem inN_start (es : List (Nat × Nat)) (T : List Int) (hl : T.length = es.length) (h : ToAt es T es.length) (v : Nat) : T.count (v : Int) = inN es [] v := by
  rw [(toAt_perm es T hl h).count_eq]
  unfold inN
  clear h hl
  induction es with
  | nil => rfl
  | cons e es ih =>
    simp only [List.map_cons, List.filter_cons]
    rw [List.count_cons, ih]
    by_cases hb : e.2 = v
    · simp [hb]
    · have : ¬ (e.2 : Int) = (v : Int) := by omega
      simp [hb, this]

/-- v may be taken now. -/
def Avail (es : List (Nat × Nat)) (done : List Nat) (v : Nat) : Prop := v ∉ done ∧ ∀ e ∈ es, e.2 = v → e.1 ∈ done
/-- The order so far: each vertex is the lowest that could be taken. -/
structure Taken (n : Nat) (es : List (Nat × Nat)) (ord : List Nat) : Prop where
  lt : ∀ v ∈ ord, v < n
  at_ : ∀ i, i < ord.length → Avail es (ord.take i) (ord.getD i 0) ∧ ∀ v, v < n → Avail es (ord.take i) v → ord.getD i 0 ≤ v
theorem taken_nil (n : Nat) (es : List (Nat × Nat)) : Taken n es [] := ⟨(fun v h => by cases h), (fun i h => by simp at h)⟩
theorem Taken.push {n : Nat} {es : List (Nat × Nat)} {ord : List Nat} (h : Taken n es ord) {u : Nat} (hu : u < n) (ha : Avail es ord u) (hm : ∀ v, v < n → Avail es ord v → u ≤ v) : Taken n es (ord ++ [u]) := by
  refine ⟨fun v hv => ?_, fun i hi => ?_⟩
  · rcases List.mem_append.1 hv with h1 | h1
    · exact h.lt v h1
    · simp at h1; subst h1; exact hu
  · rw [List.length_append, List.length_singleton] at hi
    by_cases e : i = ord.length
    · subst e
      have e1 : (ord ++ [u]).take ord.length = ord := by simp
      have e2 : (ord ++ [u]).getD ord.length 0 = u := by simp [List.getD]
      rw [e1, e2]
      exact ⟨ha, hm⟩
    · have e1 : (ord ++ [u]).take i = ord.take i := by rw [List.take_append_of_le_length (by omega)]
      have e2 : (ord ++ [u]).getD i 0 = ord.getD i 0 := by
        simp only [List.getD]
        rw [List.getElem?_append_left (by omega)]
      rw [e1, e2]
      exact h.at_ i (by omega)
theorem Taken.nodup {n : Nat} {es : List (Nat × Nat)} {ord : List Nat} (h : Taken n es ord) : ord.Nodup := by
  rw [List.Nodup, List.pairwise_iff_getElem]
  intro i j hi hj hij e
  have h1 := (h.at_ j hj).1.1
  apply h1
  have e2 : ord.getD j 0 = ord[j] := by simp [List.getD, hj]
  rw [e2, ← e, List.mem_take_iff_getElem]
  exact ⟨i, by omega, rfl⟩
theorem Taken.len {n : Nat} {es : List (Nat × Nat)} {ord : List Nat} (h : Taken n es ord) : ord.length ≤ n := below_len h.nodup h.lt

/-- The ready vertices, as numbers: those that may be taken. -/
def ReadyOk (n : Nat) (R : List Int) (P : Nat → Prop) : Prop := R.Nodup ∧ ∀ y, y ∈ R ↔ ∃ v : Nat, y = v ∧ v < n ∧ P v
theorem ReadyOk.len {n : Nat} {R : List Int} {P : Nat → Prop} (h : ReadyOk n R P) : R.length ≤ n := by
  have h1 : (R.map Int.toNat).Nodup := by
    rw [List.Nodup, List.pairwise_map]
    refine List.Pairwise.imp_of_mem ?_ h.1
    intro a b ha hb hab e
    obtain ⟨x, rfl, _⟩ := (h.2 a).1 ha
    obtain ⟨y, rfl, _⟩ := (h.2 b).1 hb
    simp at e
    exact hab (by rw [e])
  have h2 := below_len (n := n) h1 (fun x hx => by
    obtain ⟨y, hy, rfl⟩ := List.mem_map.1 hx
    obtain ⟨v, rfl, hv, _⟩ := (h.2 y).1 hy
    simpa using hv)
  rwa [List.length_map] at h2
theorem ReadyOk.congr {n : Nat} {R : List Int} {P Q : Nat → Prop} (h : ReadyOk n R P) (hpq : ∀ v, v < n → (P v ↔ Q v)) : ReadyOk n R Q :=
  ⟨h.1, fun y => (h.2 y).trans ⟨(fun ⟨v, e, hv, p⟩ => ⟨v, e, hv, (hpq v hv).1 p⟩), (fun ⟨v, e, hv, p⟩ => ⟨v, e, hv, (hpq v hv).2 p⟩)⟩⟩
theorem ReadyOk.pop {n : Nat} {R ys : List Int} {P : Nat → Prop} (h : ReadyOk n R P) {x : Int} (hp : (x :: ys).Perm R) : ∃ u : Nat, x = u ∧ u < n ∧ P u ∧ ReadyOk n ys (fun v => P v ∧ v ≠ u) := by
  obtain ⟨u, hx, hu, pu⟩ := (h.2 x).1 (hp.mem_iff.1 (List.mem_cons_self ..))
  have hd := hp.nodup_iff.2 h.1
  rw [List.nodup_cons] at hd
  refine ⟨u, hx, hu, pu, hd.2, fun y => ?_⟩
  constructor
  · intro hy
    obtain ⟨v, hv, hvn, pv⟩ := (h.2 y).1 (hp.mem_iff.1 (List.mem_cons_of_mem _ hy))
    exact ⟨v, hv, hvn, pv, fun e => hd.1 (by rw [hx, ← e, ← hv]; exact hy)⟩
  · rintro ⟨v, rfl, hvn, pv, hne⟩
    have h1 := hp.mem_iff.2 ((h.2 (v : Int)).2 ⟨v, rfl, hvn, pv⟩)
    rcases List.mem_cons.1 h1 with e | e
    · exfalso
      apply hne
      rw [hx] at e
      omega
    · exact e
theorem ReadyOk.push {n : Nat} {R ys : List Int} {P : Nat → Prop} (h : ReadyOk n R P) {u : Nat} (hu : u < n) (hn : ¬ P u) (hp : ys.Perm ((u : Int) :: R)) : ReadyOk n ys (fun v => P v ∨ v = u) := by
  have hni : (u : Int) ∉ R := by
    intro hm
    obtain ⟨v, e, _, pv⟩ := (h.2 _).1 hm
    have : v = u := by omega
    subst this
    exact hn pv
  refine ⟨hp.nodup_iff.2 (List.nodup_cons.2 ⟨hni, h.1⟩), fun y => ?_⟩
  rw [hp.mem_iff, List.mem_cons, h.2]
  constructor
  · rintro (rfl | ⟨v, e, hv, pv⟩)
    · exact ⟨u, rfl, hu, .inr rfl⟩
    · exact ⟨v, e, hv, .inl pv⟩
  · rintro ⟨v, rfl, hv, pv | rfl⟩
    · exact .inr ⟨v, rfl, hv, pv⟩
    · exact .inl rfl

/-! ### In the middle of u's stretch -/
/-- c of u's edges have been struck; u is in ord already. -/
def midN (es : List (Nat × Nat)) (ord : List Nat) (u c v : Nat) : Nat := inN es ord v + ((outs es u).drop c).count v
theorem mid_start (es : List (Nat × Nat)) (done : List Nat) (u v : Nat) (hu : u ∉ done) : midN es (done ++ [u]) u 0 v = inN es done v := by
  unfold midN
  rw [List.drop_zero, inN_push es done u v hu]
theorem mid_end (es : List (Nat × Nat)) (ord : List Nat) (u v : Nat) : midN es ord u (outs es u).length v = inN es ord v := by
  simp [midN]
theorem mid_step (es : List (Nat × Nat)) (ord : List Nat) (u c v : Nat) (hc : c < (outs es u).length) : midN es ord u c v = midN es ord u (c + 1) v + if (outs es u).getD c 0 = v then 1 else 0 := by
  unfold midN
  rw [List.drop_eq_getElem_cons hc, List.count_cons]
  have : (outs es u).getD c 0 = (outs es u)[c] := by simp [List.getD, hc]
  rw [this]
  simp only [beq_iff_eq]
  omega
/-- The middle's facts. -/
structure Mid (n : Nat) (es : List (Nat × Nat)) (ord : List Nat) (u c : Nat) (R : List Int) : Prop where
  r : ReadyOk n R (fun v => v ∉ ord ∧ midN es ord u c v = 0)
  z : ∀ v ∈ ord, midN es ord u c v = 0
theorem Mid.skip {n : Nat} {es : List (Nat × Nat)} {ord : List Nat} {u c : Nat} {R : List Int} (h : Mid n es ord u c R) (hc : c < (outs es u).length) (hx : midN es ord u (c + 1) ((outs es u).getD c 0) ≠ 0) : Mid n es ord u (c + 1) R := by
  refine ⟨h.r.congr (fun v _ => ?_), fun v hv => ?_⟩
  · have := mid_step es ord u c v hc
    constructor
    · rintro ⟨h1, h2⟩; exact ⟨h1, by omega⟩
    · rintro ⟨h1, h2⟩
      refine ⟨h1, ?_⟩
      rw [this, h2]
      by_cases e : (outs es u).getD c 0 = v
      · subst e; exact absurd h2 hx
      · rw [if_neg e]
  · have := mid_step es ord u c v hc
    have := h.z v hv
    omega
theorem Mid.push {n : Nat} {es : List (Nat × Nat)} {ord : List Nat} {u c : Nat} {R ys : List Int} (h : Mid n es ord u c R) (hc : c < (outs es u).length) (hn : (outs es u).getD c 0 < n) (hx : midN es ord u (c + 1) ((outs es u).getD c 0) = 0) (hp : ys.Perm (((outs es u).getD c 0 : Nat) :: R)) : Mid n es ord u (c + 1) ys := by
  generalize hxe : (outs es u).getD c 0 = x at *
  have hs := fun v => mid_step es ord u c v hc
  rw [hxe] at hs
  have hx1 : midN es ord u c x = 1 := by rw [hs x, hx, if_pos rfl]
  refine ⟨(h.r.push hn (fun p => by omega) hp).congr (fun v _ => ?_), fun v hv => ?_⟩
  · have h1 := hs v
    constructor
    · rintro (⟨h2, h3⟩ | rfl)
      · exact ⟨h2, by omega⟩
      · exact ⟨fun hm => by have := h.z v hm; omega, hx⟩
    · rintro ⟨h2, h3⟩
      by_cases e : v = x
      · exact .inr e
      · rw [if_neg (fun q => e q.symm)] at h1
        exact .inl ⟨h2, by omega⟩
  · have h1 := hs v
    have := h.z v hv
    omega

/-! ### Between the vertices -/
structure Kn (n : Nat) (es : List (Nat × Nat)) (ord : List Nat) (R : List Int) : Prop where
  t : Taken n es ord
  r : ReadyOk n R (Avail es ord)
  z : ∀ v ∈ ord, inN es ord v = 0
theorem avail_inN {es : List (Nat × Nat)} {ord : List Nat} {v : Nat} : Avail es ord v ↔ v ∉ ord ∧ inN es ord v = 0 := by
  unfold Avail
  rw [inN_zero]
/-- The lowest is popped. -/
theorem Kn.pop {n : Nat} {es : List (Nat × Nat)} {ord : List Nat} {R ys : List Int} (h : Kn n es ord R) {x : Int} (hp : (x :: ys).Perm R) (hmin : ∀ y ∈ R, x ≤ y) :
    ∃ u : Nat, x = u ∧ u < n ∧ Taken n es (ord ++ [u]) ∧ Mid n es (ord ++ [u]) u 0 ys := by
  obtain ⟨u, hx, hu, pu, hr⟩ := h.r.pop hp
  refine ⟨u, hx, hu, h.t.push hu pu (fun v hv av => ?_), ⟨hr.congr (fun v _ => ?_), fun v hv => ?_⟩⟩
  · have := hmin v ((h.r.2 v).2 ⟨v, rfl, hv, av⟩)
    omega
  · rw [mid_start es ord u v pu.1, avail_inN, List.mem_append, List.mem_singleton]
    constructor
    · rintro ⟨⟨h1, h2⟩, h3⟩
      exact ⟨by rintro (h | h); exact h1 h; exact h3 h, h2⟩
    · rintro ⟨h1, h2⟩
      exact ⟨⟨fun h => h1 (.inl h), h2⟩, fun h => h1 (.inr h)⟩
  · rw [mid_start es ord u v pu.1]
    rcases List.mem_append.1 hv with h1 | h1
    · exact h.z v h1
    · simp at h1
      subst h1
      exact inN_zero.2 pu.2
theorem Kn.close {n : Nat} {es : List (Nat × Nat)} {ord : List Nat} {u : Nat} {R : List Int} (t : Taken n es ord) (h : Mid n es ord u (outs es u).length R) : Kn n es ord R := by
  refine ⟨t, h.r.congr (fun v _ => ?_), fun v hv => ?_⟩
  · rw [mid_end, avail_inN]
  · have := h.z v hv
    rwa [mid_end] at this

/-- How it ends. -/
structure Kahn (n : Nat) (es : List (Nat × Nat)) (ord : List Nat) : Prop where
  t : Taken n es ord
  none : ∀ v, v < n → ¬ Avail es ord v
theorem Kn.done {n : Nat} {es : List (Nat × Nat)} {ord : List Nat} (h : Kn n es ord []) : Kahn n es ord :=
  ⟨h.t, fun v hv av => by have := (h.r.2 v).2 ⟨v, rfl, hv, av⟩; cases this⟩

/-- The first ready vertices, in their order. -/
def ready0 (es : List (Nat × Nat)) (k : Nat) : List Int := ((List.range k).filter fun v => decide (inN es [] v = 0)).map Int.ofNat
theorem ready0_succ (es : List (Nat × Nat)) (k : Nat) : ready0 es (k + 1) = ready0 es k ++ if inN es [] k = 0 then [(k : Int)] else [] := by
  unfold ready0
  rw [List.range_succ, List.filter_append, List.map_append]
  congr 1
  by_cases h : inN es [] k = 0
  · simp [h]
  · simp [h]
theorem ready0_len (es : List (Nat × Nat)) (k : Nat) : (ready0 es k).length ≤ k := by
  unfold ready0
  rw [List.length_map]
  exact Nat.le_trans (List.length_filter_le _ _) (by simp)
theorem ready0_asc (es : List (Nat × Nat)) (k : Nat) : (ready0 es k).Pairwise (· < ·) := by
  unfold ready0
  rw [List.pairwise_map]
  refine List.Pairwise.imp ?_ (List.pairwise_lt_range.filter _)
  intro a b h
  exact Int.ofNat_lt.2 h
theorem ready0_ok (n : Nat) (es : List (Nat × Nat)) : Kn n es [] (ready0 es n) := by
  refine ⟨taken_nil n es, ⟨?_, fun y => ?_⟩, fun v hv => by cases hv⟩
  · exact List.Pairwise.imp (fun h => Int.ne_of_lt h) (ready0_asc es n)
  · unfold ready0
    simp only [List.mem_map, List.mem_filter, List.mem_range, decide_eq_true_eq]
    constructor
    · rintro ⟨v, ⟨h1, h2⟩, rfl⟩
      exact ⟨v, rfl, h1, avail_inN.2 ⟨by simp, h2⟩⟩
    · rintro ⟨v, rfl, h1, h2⟩
      exact ⟨v, ⟨h1, (avail_inN.1 h2).2⟩, rfl⟩

end Go.Proofs.Qxb6614980a
