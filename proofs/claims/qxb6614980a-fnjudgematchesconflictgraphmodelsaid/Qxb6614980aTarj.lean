/-
  Tarjan's components, as plain lists: no Go in sight.
-/
import Derived.Test.Qxb6614980aBfs
import Derived.Test.Qxb6614980aRed
namespace Go.Proofs.Qxb6614980a

/-- u reaches v. -/
inductive Rch (es : List (Nat × Nat)) : Nat → Nat → Prop
  | refl (u : Nat) : Rch es u u
  | step {u v x : Nat} : (u, v) ∈ es → Rch es v x → Rch es u x
theorem Rch.trans {es : List (Nat × Nat)} {u v x : Nat} (h : Rch es u v) (k : Rch es v x) : Rch es u x := by
  induction h with
  | refl => exact k
  | step e _ ih => exact .step e (ih k)
theorem Rch.one {es : List (Nat × Nat)} {u v : Nat} (h : (u, v) ∈ es) : Rch es u v := .step h (.refl v)
/-- x lies on a cycle. -/
def OnC (es : List (Nat × Nat)) (x : Nat) : Prop := ∃ y, (x, y) ∈ es ∧ Rch es y x

abbrev at0 (xs : List Nat) (v : Nat) : Nat := xs.getD v 0
/-- The edge from u to x has been looked at. -/
def Exp (es : List (Nat × Nat)) (st : List Nat) (fr : List (Nat × Nat)) (u x : Nat) : Prop :=
  (u ∈ st ∧ u ∉ fr.map Prod.fst ∧ (u, x) ∈ es) ∨ ∃ c k, (u, c) ∈ fr ∧ k < c ∧ k < (outs es u).length ∧ (outs es u).getD k 0 = x
/-- ls: the least vertex of P on a cycle, -1 where there is none. -/
def Least (es : List (Nat × Nat)) (P : Nat → Prop) (ls : Int) : Prop :=
  (ls = -1 ∧ ∀ x, P x → ¬ OnC es x) ∨ ∃ s : Nat, ls = s ∧ P s ∧ OnC es s ∧ ∀ x, P x → OnC es x → s ≤ x

structure TJ (n : Nat) (es : List (Nat × Nat)) (pend : Option Nat) (ix lo st : List Nat) (fr : List (Nat × Nat)) (fd : Nat) (ls : Int) : Prop where
  il : ix.length = n
  ll : lo.length = n
  le : ∀ x, at0 ix x ≤ fd
  inj : ∀ x y, at0 ix x = at0 ix y → at0 ix x ≠ 0 → x = y
  stk : ∀ x ∈ st, x < n ∧ at0 ix x ≠ 0
  ord : st.Pairwise (fun a b => at0 ix a < at0 ix b)
  sub : (fr.map Prod.fst).Sublist st
  frc : ∀ f ∈ fr, f.2 ≤ (outs es f.1).length
  disc : ∀ u x, Exp es st fr u x → at0 ix x ≠ 0 ∨ pend = some x
  expl : ∀ u x, Exp es st fr u x → x ∈ st → at0 lo u ≤ at0 ix x
  cls : ∀ u, at0 ix u ≠ 0 → u ∉ st → ∀ x, (u, x) ∈ es → at0 ix x ≠ 0 ∧ x ∉ st
  lle : ∀ u ∈ st, at0 lo u ≤ at0 ix u
  lor : ∀ u ∈ st, ∃ y ∈ st, at0 ix y = at0 lo u ∧ Rch es u y
  fin : ∀ u ∈ st, u ∉ fr.map Prod.fst → at0 lo u < at0 ix u
  dn : ∀ p ∈ fr.map Prod.fst, ∀ x ∈ st, at0 ix p ≤ at0 ix x → Rch es p x
  zon : ∀ p ∈ fr.map Prod.fst, ∀ x ∈ st, at0 ix p ≤ at0 ix x → (∀ p' ∈ fr.map Prod.fst, at0 ix p' ≤ at0 ix p ∨ at0 ix x < at0 ix p') → at0 lo p ≤ at0 lo x
  low : Least es (fun x => at0 ix x ≠ 0 ∧ x ∉ st) ls

theorem at0_lt {xs : List Nat} {x : Nat} (h : at0 xs x ≠ 0) : x < xs.length := by
  apply Decidable.byContradiction
  intro hn
  apply h
  simp [at0, List.getD, List.getElem?_eq_none (Nat.le_of_not_lt hn)]
theorem at0_set {xs : List Nat} {t : Nat} (v : Nat) (ht : t < xs.length) (x : Nat) : at0 (xs.set t v) x = if x = t then v else at0 xs x := by
  by_cases e : x = t
  · subst e
    rw [if_pos rfl]
    exact getD_set_eq _ _ _ _ ht
  · rw [if_neg e]
    exact getD_set_ne _ _ _ _ _ e
theorem TJ.nodup {n : Nat} {es : List (Nat × Nat)} {pend : Option Nat} {ix lo st : List Nat} {fr : List (Nat × Nat)} {fd : Nat} {ls : Int} (h : TJ n es pend ix lo st fr fd ls) : st.Nodup :=
  h.ord.imp (fun {a b} hab e => by subst e; omega)
theorem TJ.frs {n : Nat} {es : List (Nat × Nat)} {pend : Option Nat} {ix lo st : List Nat} {fr : List (Nat × Nat)} {fd : Nat} {ls : Int} (h : TJ n es pend ix lo st fr fd ls) : ∀ p ∈ fr.map Prod.fst, p ∈ st := fun _ hp => h.sub.subset hp

theorem tj_start (n : Nat) (es : List (Nat × Nat)) : TJ n es none (List.replicate n 0) (List.replicate n 0) [] [] 0 (-1) := by
  have hz : ∀ x, at0 (List.replicate n 0) x = 0 := by
    intro x
    simp only [at0, List.getD, List.getElem?_replicate]
    split <;> rfl
  refine ⟨by simp, by simp, (fun x => by rw [hz]; exact Nat.le_refl _), (fun x y _ h => absurd (hz x) h), (fun x hx => by cases hx), List.Pairwise.nil, List.Sublist.refl _, (fun f hf => by cases hf), ?_, ?_, ?_, (fun u hu => by cases hu), (fun u hu => by cases hu), (fun u hu => by cases hu), (fun p hp => by cases hp), (fun p hp => by cases hp), .inl ⟨rfl, (fun x hx => absurd (hz x) hx.1)⟩⟩
  · rintro u x (⟨h, _⟩ | ⟨c, k, h, _⟩)
    · cases h
    · cases h
  · intro u x _ hx; cases hx
  · intro u hu
    exact absurd (hz u) hu

/-- A vertex is found. -/
theorem TJ.discover {n : Nat} {es : List (Nat × Nat)} {pend : Option Nat} {ix lo st : List Nat} {fr : List (Nat × Nat)} {fd : Nat} {ls : Int} (h : TJ n es pend ix lo st fr fd ls) {w : Nat} (hw : w < n) (h0 : at0 ix w = 0) (hp : pend = none ∨ pend = some w) (hr : ∀ p ∈ fr.map Prod.fst, Rch es p w) :
    TJ n es none (ix.set w (fd + 1)) (lo.set w (fd + 1)) (st ++ [w]) (fr ++ [(w, 0)]) (fd + 1) ls := by
  have hwl : w < ix.length := by rw [h.il]; exact hw
  have hwl' : w < lo.length := by rw [h.ll]; exact hw
  have I := at0_set (xs := ix) (fd + 1) hwl
  have L := at0_set (xs := lo) (fd + 1) hwl'
  have hns : w ∉ st := fun e => (h.stk w e).2 h0
  have hnf : w ∉ fr.map Prod.fst := fun e => hns (h.frs w e)
  have ne : ∀ x ∈ st, x ≠ w := fun x hx e => hns (e ▸ hx)
  have nz : ∀ x, at0 ix x ≠ 0 → x ≠ w := fun x hx e => by subst e; exact hx h0
  have hmap : (fr ++ [(w, 0)]).map Prod.fst = fr.map Prod.fst ++ [w] := by simp
  have hexp : ∀ u x, Exp es (st ++ [w]) (fr ++ [(w, 0)]) u x → Exp es st fr u x := by
    rintro u x (⟨h1, h2, h3⟩ | ⟨c, k, h1, h2, h3, h4⟩)
    · rw [hmap] at h2
      have : u ≠ w := fun e => h2 (by rw [e]; simp)
      rcases List.mem_append.1 h1 with q | q
      · exact .inl ⟨q, fun e => h2 (List.mem_append_left _ e), h3⟩
      · simp at q; exact absurd q this
    · rcases List.mem_append.1 h1 with q | q
      · exact .inr ⟨c, k, q, h2, h3, h4⟩
      · simp at q; omega
  have hexu : ∀ u x, Exp es st fr u x → u ∈ st := by
    rintro u x (⟨h1, _⟩ | ⟨c, k, h1, _⟩)
    · exact h1
    · exact h.frs u (List.mem_map.2 ⟨_, h1, rfl⟩)
  refine ⟨by simp [h.il], by simp [h.ll], fun x => ?_, fun x y => ?_, fun x hx => ?_, ?_, ?_, ?_, ?_, ?_, ?_, ?_, ?_, ?_, ?_, ?_, ?_⟩
  · rw [I]; split
    · omega
    · have := h.le x; omega
  · rw [I, I]
    have hx := h.le x
    have hy := h.le y
    split <;> split
    · intros; omega
    · intros; omega
    · intros; omega
    · exact h.inj x y
  · rw [I]
    rcases List.mem_append.1 hx with q | q
    · rw [if_neg (ne x q)]; exact h.stk x q
    · simp at q; subst q; exact ⟨hw, by simp⟩
  · rw [List.pairwise_append]
    refine ⟨h.ord.imp_of_mem (fun {a b} ha hb hab => by rw [I, I, if_neg (ne a ha), if_neg (ne b hb)]; exact hab), List.pairwise_singleton _ _, fun a ha b hb => ?_⟩
    simp at hb; subst hb
    rw [I, I, if_neg (ne a ha), if_pos rfl]
    have := h.le a; omega
  · rw [hmap]
    exact h.sub.append (List.Sublist.refl _)
  · intro f hf
    rcases List.mem_append.1 hf with q | q
    · exact h.frc f q
    · simp at q; subst q; exact Nat.zero_le _
  · intro u x hx
    rw [I]
    by_cases e : x = w
    · rw [if_pos e]; exact .inl (by omega)
    · rw [if_neg e]
      rcases h.disc u x (hexp u x hx) with q | q
      · exact .inl q
      · rcases hp with r | r
        · rw [r] at q; cases q
        · rw [r] at q; cases q; exact absurd rfl e
  · intro u x hx hxs
    have hu := hexu u x (hexp u x hx)
    rw [L, if_neg (ne u hu), I]
    rcases List.mem_append.1 hxs with q | q
    · rw [if_neg (ne x q)]; exact h.expl u x (hexp u x hx) q
    · simp at q; rw [if_pos q]
      have := h.lle u hu
      have := h.le u
      omega
  · intro u hu hus x hx
    have huw : u ≠ w := fun e => hus (by rw [e]; simp)
    rw [I, if_neg huw] at hu
    obtain ⟨q1, q2⟩ := h.cls u hu (fun e => hus (List.mem_append_left _ e)) x hx
    have hxw : x ≠ w := nz x q1
    rw [I, if_neg hxw]
    exact ⟨q1, fun e => by
      rcases List.mem_append.1 e with r | r
      · exact q2 r
      · simp at r; exact hxw r⟩
  · intro u hu
    rw [L, I]
    rcases List.mem_append.1 hu with q | q
    · rw [if_neg (ne u q), if_neg (ne u q)]; exact h.lle u q
    · simp at q; rw [if_pos q, if_pos q]; exact Nat.le_refl _
  · intro u hu
    rw [L]
    rcases List.mem_append.1 hu with q | q
    · rw [if_neg (ne u q)]
      obtain ⟨y, hy, e1, e2⟩ := h.lor u q
      exact ⟨y, List.mem_append_left _ hy, by rw [I, if_neg (ne y hy)]; exact e1, e2⟩
    · simp at q; subst q
      exact ⟨u, by simp, by rw [I, if_pos rfl, if_pos rfl], .refl _⟩
  · intro u hu huf
    rw [hmap] at huf
    have huw : u ≠ w := fun e => huf (by rw [e]; simp)
    rcases List.mem_append.1 hu with q | q
    · rw [L, I, if_neg huw, if_neg huw]
      exact h.fin u q (fun e => huf (List.mem_append_left _ e))
    · simp at q; exact absurd q huw
  · intro p hp' x hx
    rw [hmap] at hp'
    rw [I, I]
    rcases List.mem_append.1 hp' with q | q
    · have hpw := ne p (h.frs p q)
      rw [if_neg hpw]
      rcases List.mem_append.1 hx with r | r
      · rw [if_neg (ne x r)]; exact h.dn p q x r
      · simp at r; subst r; intro _; exact hr p q
    · simp at q; subst q
      rw [if_pos rfl]
      rcases List.mem_append.1 hx with r | r
      · rw [if_neg (ne x r)]
        have := h.le x; intro; omega
      · simp at r; subst r; intro _; exact .refl _
  · intro p hp' x hx
    rw [hmap] at hp' ⊢
    rcases List.mem_append.1 hp' with q | q
    · have hpw := ne p (h.frs p q)
      rcases List.mem_append.1 hx with r | r
      · have hxw := ne x r
        rw [I, I, L, L, if_neg hpw, if_neg hxw, if_neg hpw, if_neg hxw]
        intro h1 h2
        refine h.zon p q x r h1 (fun p' hp'' => ?_)
        have := h2 p' (List.mem_append_left _ hp'')
        rw [I, if_neg (ne p' (h.frs p' hp''))] at this
        exact this
      · simp at r; subst r
        intro _ h2
        exfalso
        have := h2 x (by simp)
        rw [I, if_pos rfl, I, if_neg hpw] at this
        have := h.le p
        omega
    · simp at q; subst q
      rcases List.mem_append.1 hx with r | r
      · rw [I, I, if_pos rfl, if_neg (ne x r)]
        have := h.le x; intro; omega
      · simp at r; subst r; intro _ _; exact Nat.le_refl _
  · have e : ∀ x, (at0 (ix.set w (fd + 1)) x ≠ 0 ∧ x ∉ st ++ [w]) ↔ (at0 ix x ≠ 0 ∧ x ∉ st) := by
      intro x
      rw [I]
      constructor
      · rintro ⟨h1, h2⟩
        have hxw : x ≠ w := fun e => h2 (by rw [e]; simp)
        rw [if_neg hxw] at h1
        exact ⟨h1, fun e => h2 (List.mem_append_left _ e)⟩
      · rintro ⟨h1, h2⟩
        rw [if_neg (nz x h1)]
        exact ⟨h1, fun e => by
          rcases List.mem_append.1 e with r | r
          · exact h2 r
          · simp at r; exact nz x h1 r⟩
    rcases h.low with ⟨h1, h2⟩ | ⟨s, h1, h2, h3, h4⟩
    · exact .inl ⟨h1, fun x hx => h2 x ((e x).1 hx)⟩
    · exact .inr ⟨s, h1, (e s).2 h2, h3, fun x hx => h4 x ((e x).1 hx)⟩
/-- A low of a vertex on the path is lowered. -/
theorem TJ.lower {n : Nat} {es : List (Nat × Nat)} {pend : Option Nat} {ix lo st : List Nat} {fr : List (Nat × Nat)} {fd : Nat} {ls : Int} (h : TJ n es pend ix lo st fr fd ls) {v m : Nat} (hv : v ∈ fr.map Prod.fst) (hm : ∃ y ∈ st, at0 ix y = m ∧ Rch es v y) :
    TJ n es pend ix (lo.set v (min (at0 lo v) m)) st fr fd ls := by
  have hvs := h.frs v hv
  have hvl : v < lo.length := by rw [h.ll]; exact (h.stk v hvs).1
  have L := at0_set (xs := lo) (min (at0 lo v) m) hvl
  have Lle : ∀ x, at0 (lo.set v (min (at0 lo v) m)) x ≤ at0 lo x := by
    intro x; rw [L]; split
    · next e => subst e; omega
    · exact Nat.le_refl _
  refine ⟨h.il, by simp [h.ll], h.le, h.inj, h.stk, h.ord, h.sub, h.frc, h.disc, (fun u x hx hs => Nat.le_trans (Lle u) (h.expl u x hx hs)), h.cls, (fun u hu => Nat.le_trans (Lle u) (h.lle u hu)), fun u hu => ?_, (fun u hu hf => Nat.lt_of_le_of_lt (Lle u) (h.fin u hu hf)), h.dn, fun p hp x hx h1 h2 => ?_, h.low⟩
  · rw [L]
    by_cases e : u = v
    · subst e
      rw [if_pos rfl]
      by_cases hc : m < at0 lo u
      · obtain ⟨y, hy, e1, e2⟩ := hm
        exact ⟨y, hy, by rw [e1]; omega, e2⟩
      · obtain ⟨y, hy, e1, e2⟩ := h.lor u hu
        exact ⟨y, hy, by rw [e1]; omega, e2⟩
    · rw [if_neg e]; exact h.lor u hu
  · by_cases ex : x = v
    · subst ex
      rcases h2 x hv with q | q
      · have : p = x := h.inj p x (by omega) (h.stk p (h.frs p hp)).2
        rw [this]; exact Nat.le_refl _
      · omega
    · rw [L x, if_neg ex]
      exact Nat.le_trans (Lle p) (h.zon p hp x hx h1 h2)

theorem TJ.seen {n : Nat} {es : List (Nat × Nat)} {w : Nat} {ix lo st : List Nat} {fr : List (Nat × Nat)} {fd : Nat} {ls : Int} (h : TJ n es (some w) ix lo st fr fd ls) (hw : at0 ix w ≠ 0) : TJ n es none ix lo st fr fd ls :=
  { h with disc := fun u x hx => (h.disc u x hx).elim (fun q => .inl q) (fun q => .inl (by cases q; exact hw)) }

/-- One edge more of the top vertex has been looked at. -/
theorem TJ.bump {n : Nat} {es : List (Nat × Nat)} {ix lo st : List Nat} {fr : List (Nat × Nat)} {fd : Nat} {ls : Int} {v c : Nat} (h : TJ n es none ix lo st (fr ++ [(v, c)]) fd ls) (hc : c < (outs es v).length) (hx : (outs es v).getD c 0 ∈ st → at0 lo v ≤ at0 ix ((outs es v).getD c 0)) :
    TJ n es (some ((outs es v).getD c 0)) ix lo st (fr ++ [(v, c + 1)]) fd ls := by
  have hmap : (fr ++ [(v, c + 1)]).map Prod.fst = (fr ++ [(v, c)]).map Prod.fst := by simp
  have hexp : ∀ u x, Exp es st (fr ++ [(v, c + 1)]) u x → Exp es st (fr ++ [(v, c)]) u x ∨ (u = v ∧ x = (outs es v).getD c 0) := by
    rintro u x (⟨h1, h2, h3⟩ | ⟨c', k, h1, h2, h3, h4⟩)
    · rw [hmap] at h2; exact .inl (.inl ⟨h1, h2, h3⟩)
    · rcases List.mem_append.1 h1 with q | q
      · exact .inl (.inr ⟨c', k, List.mem_append_left _ q, h2, h3, h4⟩)
      · simp at q
        obtain ⟨rfl, rfl⟩ := q
        by_cases e : k = c
        · subst e; exact .inr ⟨rfl, h4.symm⟩
        · exact .inl (.inr ⟨c, k, by simp, by omega, h3, h4⟩)
  refine ⟨h.il, h.ll, h.le, h.inj, h.stk, h.ord, by rw [hmap]; exact h.sub, fun f hf => ?_, fun u x he => ?_, fun u x he hs => ?_, h.cls, h.lle, h.lor, by rw [hmap]; exact h.fin, by rw [hmap]; exact h.dn, by rw [hmap]; exact h.zon, h.low⟩
  · rcases List.mem_append.1 hf with q | q
    · exact h.frc f (List.mem_append_left _ q)
    · simp at q; subst q; exact hc
  · rcases hexp u x he with q | ⟨_, q⟩
    · rcases h.disc u x q with r | r
      · exact .inl r
      · cases r
    · exact .inr (by rw [q])
  · rcases hexp u x he with q | ⟨q1, q⟩
    · exact h.expl u x q hs
    · subst q1; rw [q] at hs ⊢; exact hx hs

theorem TJ.above {n : Nat} {es : List (Nat × Nat)} {pend : Option Nat} {ix lo st : List Nat} {fr : List (Nat × Nat)} {fd : Nat} {ls : Int} {v c : Nat} (h : TJ n es pend ix lo st (fr ++ [(v, c)]) fd ls) : ∀ p ∈ fr.map Prod.fst, at0 ix p < at0 ix v := by
  have := h.ord.sublist h.sub
  rw [List.map_append, List.pairwise_append] at this
  exact fun p hp => this.2.2 p hp v (by simp)
theorem exp_all {es : List (Nat × Nat)} {st : List Nat} {fr : List (Nat × Nat)} {v c x : Nat} (hc : c = (outs es v).length) (hx : (v, x) ∈ es) : Exp es st (fr ++ [(v, c)]) v x := by
  obtain ⟨k, hk, e⟩ := List.getElem_of_mem (outs_mem.2 hx)
  exact .inr ⟨c, k, by simp, by omega, hk, by rw [← e]; simp [List.getD, hk]⟩

/-- The top vertex is done and stays on the stack. -/
theorem TJ.drop {n : Nat} {es : List (Nat × Nat)} {ix lo st : List Nat} {fr : List (Nat × Nat)} {fd : Nat} {ls : Int} {v c : Nat} (h : TJ n es none ix lo st (fr ++ [(v, c)]) fd ls) (hc : c = (outs es v).length) (hl : at0 lo v < at0 ix v) (hz : ∀ p ∈ fr.map Prod.fst, (∀ p' ∈ fr.map Prod.fst, at0 ix p' ≤ at0 ix p) → at0 lo p ≤ at0 lo v) : TJ n es none ix lo st fr fd ls := by
  have hmap : (fr ++ [(v, c)]).map Prod.fst = fr.map Prod.fst ++ [v] := by simp
  have hab := h.above
  have hvf : v ∈ (fr ++ [(v, c)]).map Prod.fst := by rw [hmap]; simp
  have hsub : ∀ p ∈ fr.map Prod.fst, p ∈ (fr ++ [(v, c)]).map Prod.fst := fun p hp => by rw [hmap]; exact List.mem_append_left _ hp
  have hexp : ∀ u x, Exp es st fr u x → Exp es st (fr ++ [(v, c)]) u x := by
    rintro u x (⟨h1, h2, h3⟩ | ⟨c', k, h1, h2⟩)
    · by_cases e : u = v
      · subst e; exact exp_all hc h3
      · refine .inl ⟨h1, fun q => ?_, h3⟩
        rw [hmap] at q
        rcases List.mem_append.1 q with r | r
        · exact h2 r
        · simp at r; exact e r
    · exact .inr ⟨c', k, List.mem_append_left _ h1, h2⟩
  refine ⟨h.il, h.ll, h.le, h.inj, h.stk, h.ord, ?_, (fun f hf => h.frc f (List.mem_append_left _ hf)), (fun u x hx => h.disc u x (hexp u x hx)), (fun u x hx => h.expl u x (hexp u x hx)), h.cls, h.lle, h.lor, fun u hu hf => ?_, (fun p hp => h.dn p (hsub p hp)), fun p hp x hx h1 h2 => ?_, h.low⟩
  · have := h.sub
    rw [hmap] at this
    exact (List.sublist_append_left _ _).trans this
  · by_cases e : u = v
    · subst e; exact hl
    · refine h.fin u hu (fun q => ?_)
      rw [hmap] at q
      rcases List.mem_append.1 q with r | r
      · exact hf r
      · simp at r; exact e r
  · by_cases hv : at0 ix x < at0 ix v
    · refine h.zon p (hsub p hp) x hx h1 (fun p' hp' => ?_)
      rw [hmap] at hp'
      rcases List.mem_append.1 hp' with r | r
      · exact h2 p' r
      · simp at r; subst r; exact .inr hv
    · have a1 : at0 lo v ≤ at0 lo x := by
        refine h.zon v hvf x hx (by omega) (fun p' hp' => ?_)
        rw [hmap] at hp'
        rcases List.mem_append.1 hp' with r | r
        · have := hab p' r; exact .inl (by omega)
        · simp at r; subst r; exact .inl (Nat.le_refl _)
      refine Nat.le_trans (hz p hp (fun p' hp' => ?_)) a1
      rcases h2 p' hp' with r | r
      · exact r
      · have := hab p' hp'; omega

theorem onC_of {es : List (Nat × Nat)} {a b : Nat} (h : Rch es a b) (hne : a ≠ b) (k : Rch es b a) : OnC es a := by
  cases h with
  | refl => exact absurd rfl hne
  | step e r => exact ⟨_, e, r.trans k⟩
theorem TJ.closed {n : Nat} {es : List (Nat × Nat)} {pend : Option Nat} {ix lo st : List Nat} {fr : List (Nat × Nat)} {fd : Nat} {ls : Int} (h : TJ n es pend ix lo st fr fd ls) {a b : Nat} (r : Rch es a b) : at0 ix a ≠ 0 → a ∉ st → b ∉ st := by
  induction r with
  | refl => intro _ q; exact q
  | step e _ ih =>
    intro h1 h2
    obtain ⟨q1, q2⟩ := h.cls _ h1 h2 _ e
    exact ih q1 q2

/-- The top vertex is done and is the root of its component. -/
theorem TJ.pop {n : Nat} {es : List (Nat × Nat)} (hg : GoodE n es) {ix lo st seg : List Nat} {fr : List (Nat × Nat)} {fd : Nat} {ls ls' : Int} {v c : Nat} (h : TJ n es none ix lo (st ++ v :: seg) (fr ++ [(v, c)]) fd ls) (hc : c = (outs es v).length) (hl : at0 lo v = at0 ix v)
    (h1 : seg = [] → ls' = ls) (h2 : seg ≠ [] → ∃ m, m ∈ v :: seg ∧ (∀ x ∈ v :: seg, m ≤ x) ∧ ls' = if ls < 0 ∨ (m : Int) < ls then (m : Int) else ls) : TJ n es none ix lo st fr fd ls' := by
  have hmap : (fr ++ [(v, c)]).map Prod.fst = fr.map Prod.fst ++ [v] := by simp
  have hab := h.above
  have hvf : v ∈ (fr ++ [(v, c)]).map Prod.fst := by rw [hmap]; simp
  have hsub : ∀ p ∈ fr.map Prod.fst, p ∈ (fr ++ [(v, c)]).map Prod.fst := fun p hp => by rw [hmap]; exact List.mem_append_left _ hp
  have hord := h.ord
  rw [List.pairwise_append, List.pairwise_cons] at hord
  obtain ⟨o1, ⟨o2, o3⟩, o4⟩ := hord
  have inS : ∀ x ∈ v :: seg, x ∈ st ++ v :: seg := fun x hx => List.mem_append_right _ hx
  have geS : ∀ x ∈ v :: seg, at0 ix v ≤ at0 ix x := fun x hx => by
    rcases List.mem_cons.1 hx with e | e
    · rw [e]; exact Nat.le_refl _
    · exact Nat.le_of_lt (o2 x e)
  have ltS : ∀ x ∈ st, at0 ix x < at0 ix v := fun x hx => o4 x hx v (by simp)
  have frLe : ∀ p ∈ (fr ++ [(v, c)]).map Prod.fst, at0 ix p ≤ at0 ix v := fun p hp => by
    rw [hmap] at hp
    rcases List.mem_append.1 hp with r | r
    · exact Nat.le_of_lt (hab p r)
    · simp at r; rw [r]; exact Nat.le_refl _
  have segF : ∀ x ∈ seg, x ∉ (fr ++ [(v, c)]).map Prod.fst := fun x hx q => by
    have := frLe x q
    have := o2 x hx
    omega
  have k2 : ∀ x ∈ v :: seg, at0 lo v ≤ at0 lo x := fun x hx => h.zon v hvf x (inS x hx) (geS x hx) (fun p' hp' => .inl (frLe p' hp'))
  have up : ∀ y ∈ st ++ v :: seg, at0 ix v ≤ at0 ix y → y ∈ v :: seg := fun y hy hle => by
    rcases List.mem_append.1 hy with r | r
    · have := ltS y r; omega
    · exact r
  have k3 : ∀ x ∈ v :: seg, Rch es v x := fun x hx => h.dn v hvf x (inS x hx) (geS x hx)
  have k3' : ∀ k x, x ∈ v :: seg → at0 ix x < k → Rch es x v := by
    intro k
    induction k with
    | zero => intro x _ hk; omega
    | succ k ih =>
      intro x hx hk
      rcases List.mem_cons.1 hx with e | e
      · rw [e]; exact .refl _
      · have hf := h.fin x (inS x hx) (segF x e)
        obtain ⟨y, hy, e1, e2⟩ := h.lor x (inS x hx)
        have := k2 x hx
        exact e2.trans (ih y (up y hy (by omega)) (by omega))
  have hexS : ∀ x ∈ v :: seg, ∀ z, (x, z) ∈ es → Exp es (st ++ v :: seg) (fr ++ [(v, c)]) x z := fun x hx z hz => by
    rcases List.mem_cons.1 hx with e | e
    · subst e; exact exp_all hc hz
    · exact .inl ⟨inS x hx, segF x e, hz⟩
  have k4 : ∀ x ∈ v :: seg, ∀ z, (x, z) ∈ es → at0 ix z ≠ 0 ∧ z ∉ st := fun x hx z hz => by
    have he := hexS x hx z hz
    refine ⟨?_, fun q => ?_⟩
    · rcases h.disc x z he with r | r
      · exact r
      · cases r
    · have := h.expl x z he (List.mem_append_left _ q)
      have := ltS z q
      have := k2 x hx
      omega
  have hexp : ∀ u x, Exp es st fr u x → Exp es (st ++ v :: seg) (fr ++ [(v, c)]) u x := by
    rintro u x (⟨q1, q2, q3⟩ | ⟨c', k, q1, q2⟩)
    · refine .inl ⟨List.mem_append_left _ q1, fun q => ?_, q3⟩
      rw [hmap] at q
      rcases List.mem_append.1 q with r | r
      · exact q2 r
      · simp at r; subst r; have := ltS u q1; omega
    · exact .inr ⟨c', k, List.mem_append_left _ q1, q2⟩
  have hP : ∀ x, (at0 ix x ≠ 0 ∧ x ∉ st) ↔ ((at0 ix x ≠ 0 ∧ x ∉ st ++ v :: seg) ∨ x ∈ v :: seg) := by
    intro x
    constructor
    · rintro ⟨q1, q2⟩
      by_cases hx : x ∈ v :: seg
      · exact .inr hx
      · exact .inl ⟨q1, fun q => by
          rcases List.mem_append.1 q with r | r
          · exact q2 r
          · exact hx r⟩
    · rintro (⟨q1, q2⟩ | q)
      · exact ⟨q1, fun q => q2 (List.mem_append_left _ q)⟩
      · exact ⟨(h.stk x (inS x q)).2, fun r => by have := ltS x r; have := geS x q; omega⟩
  refine ⟨h.il, h.ll, h.le, h.inj, (fun x hx => h.stk x (List.mem_append_left _ hx)), o1, ?_, (fun f hf => h.frc f (List.mem_append_left _ hf)), (fun u x hx => h.disc u x (hexp u x hx)), (fun u x hx hs => h.expl u x (hexp u x hx) (List.mem_append_left _ hs)), fun u hu hus x hx => ?_, (fun u hu => h.lle u (List.mem_append_left _ hu)), fun u hu => ?_, fun u hu hf => ?_, (fun p hp x hx => h.dn p (hsub p hp) x (List.mem_append_left _ hx)), fun p hp x hx e1 e2 => ?_, ?_⟩
  · have hs := h.sub
    rw [hmap] at hs
    obtain ⟨l1, l2, e1, e2, e3⟩ := List.sublist_append_iff.1 hs
    rcases List.eq_nil_or_concat l2 with r | ⟨l2', y, r⟩
    · subst r
      rw [List.append_nil] at e1
      rw [← e1] at e2
      have : v ∈ st := e2.subset (by simp)
      have := ltS v this
      omega
    · rw [List.concat_eq_append] at r
      subst r
      rw [← List.append_assoc] at e1
      obtain ⟨e4, e5⟩ := List.append_inj' e1 rfl
      simp at e5
      subst e5
      cases l2' with
      | nil => rw [e4, List.append_nil]; exact e2
      | cons z zs =>
        have hz : z ∈ v :: seg := e3.subset (by simp)
        have hz' : z ∈ fr.map Prod.fst := by rw [e4]; simp
        have := hab z hz'
        have := geS z hz
        omega
  · rcases (hP u).1 ⟨hu, hus⟩ with q | q
    · obtain ⟨r1, r2⟩ := h.cls u q.1 q.2 x hx
      exact ⟨r1, fun r => r2 (List.mem_append_left _ r)⟩
    · exact k4 u q x hx
  · obtain ⟨y, hy, e1, e2⟩ := h.lor u (List.mem_append_left _ hu)
    have a1 := h.lle u (List.mem_append_left _ hu)
    have a2 := ltS u hu
    refine ⟨y, ?_, e1, e2⟩
    rcases List.mem_append.1 hy with r | r
    · exact r
    · have := geS y r; omega
  · refine h.fin u (List.mem_append_left _ hu) (fun q => ?_)
    rw [hmap] at q
    rcases List.mem_append.1 q with r | r
    · exact hf r
    · simp at r; subst r; have := ltS u hu; omega
  · refine h.zon p (hsub p hp) x (List.mem_append_left _ hx) e1 (fun p' hp' => ?_)
    rw [hmap] at hp'
    rcases List.mem_append.1 hp' with r | r
    · exact e2 p' r
    · simp at r; subst r; exact .inr (ltS x hx)
  · by_cases hs : seg = []
    · rw [h1 hs]
      have hnc : ¬ OnC es v := by
        rintro ⟨z, hz, hr⟩
        obtain ⟨r1, r2⟩ := k4 v (by simp) z hz
        have hzv : z ≠ v := fun e => by have := (hg _ hz).2.2; exact this e.symm
        have hzs : z ∉ st ++ v :: seg := by
          rw [hs]
          intro q
          rcases List.mem_append.1 q with r | r
          · exact r2 r
          · simp at r; exact hzv r
        exact h.closed hr r1 hzs (by simp)
      have hPn : ∀ x, (at0 ix x ≠ 0 ∧ x ∉ st) → OnC es x → (at0 ix x ≠ 0 ∧ x ∉ st ++ v :: seg) := fun x hx ho => by
        rcases (hP x).1 hx with q | q
        · exact q
        · rw [hs] at q; simp at q; subst q; exact absurd ho hnc
      rcases h.low with ⟨q1, q2⟩ | ⟨s, q1, q2, q3, q4⟩
      · exact .inl ⟨q1, fun x hx ho => q2 x (hPn x hx ho) ho⟩
      · exact .inr ⟨s, q1, (hP s).2 (.inl q2), q3, fun x hx ho => q4 x (hPn x hx ho) ho⟩
    · obtain ⟨m, m1, m2, m3⟩ := h2 hs
      have hon : ∀ x ∈ v :: seg, OnC es x := by
        intro x hx
        have r1 := k3 x hx
        have r2 := k3' _ x hx (Nat.lt_succ_self _)
        by_cases e : x = v
        · subst e
          cases seg with
          | nil => exact absurd rfl hs
          | cons y ys =>
            have hy : y ∈ x :: y :: ys := by simp
            have hne : x ≠ y := fun e => by have := o2 y (by simp); rw [e] at this; omega
            exact onC_of (k3 y hy) hne (k3' _ y hy (Nat.lt_succ_self _))
        · exact onC_of r2 e r1
      rw [m3]
      rcases h.low with ⟨q1, q2⟩ | ⟨s, q1, q2, q3, q4⟩
      · rw [if_pos (.inl (by omega))]
        refine .inr ⟨m, rfl, (hP m).2 (.inr m1), hon m m1, fun x hx ho => ?_⟩
        rcases (hP x).1 hx with q | q
        · exact absurd ho (q2 x q)
        · exact m2 x q
      · by_cases hlt : (m : Int) < ls
        · rw [if_pos (.inr hlt)]
          refine .inr ⟨m, rfl, (hP m).2 (.inr m1), hon m m1, fun x hx ho => ?_⟩
          rcases (hP x).1 hx with q | q
          · have := q4 x q ho; omega
          · exact m2 x q
        · rw [if_neg (by omega)]
          refine .inr ⟨s, q1, (hP s).2 (.inl q2), q3, fun x hx ho => ?_⟩
          rcases (hP x).1 hx with q | q
          · exact q4 x q ho
          · have := m2 x q; omega

theorem TJ.empty {n : Nat} {es : List (Nat × Nat)} {pend : Option Nat} {ix lo st : List Nat} {fd : Nat} {ls : Int} (h : TJ n es pend ix lo st [] fd ls) : st = [] := by
  cases st with
  | nil => rfl
  | cons a rest =>
    have hf := h.fin a (by simp) (by simp)
    obtain ⟨y, hy, e1, _⟩ := h.lor a (by simp)
    have ho := (List.pairwise_cons.1 h.ord).1
    rcases List.mem_cons.1 hy with e | e
    · subst e; omega
    · have := ho y e; omega
theorem TJ.all {n : Nat} {es : List (Nat × Nat)} {pend : Option Nat} {ix lo : List Nat} {fd : Nat} {ls : Int} (h : TJ n es pend ix lo [] [] fd ls) (ha : ∀ x, x < n → at0 ix x ≠ 0) : Least es (fun x => x < n) ls := by
  have e : ∀ x, (at0 ix x ≠ 0 ∧ x ∉ ([] : List Nat)) ↔ x < n := fun x => ⟨fun q => by have := at0_lt q.1; rw [h.il] at this; exact this, fun q => ⟨ha x q, by simp⟩⟩
  rcases h.low with ⟨h1, h2⟩ | ⟨s, h1, h2, h3, h4⟩
  · exact .inl ⟨h1, fun x hx => h2 x ((e x).2 hx)⟩
  · exact .inr ⟨s, h1, (e s).1 h2, h3, fun x hx => h4 x ((e x).2 hx)⟩
end Go.Proofs.Qxb6614980a
