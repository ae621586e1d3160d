/-
  The closure 'edge' of 'reduced'.
-/
import Derived.Test.Qxb6614980aOwn
namespace Go.Proofs.Qxb6614980a
open Go.ChangeShapes Go.WideShapes Go.ChangeAt Go.RowKit

theorem OwnI.blk {w : World} {B : Nat} {v : Value} {xs : List Int} (h : OwnI w B v xs) {k : Nat} (hk : v.ownBlock = some k) : ∃ cs, Blk w k 3 cs := by
  rcases h.2 with ⟨rfl, _⟩ | ⟨g, cap, cur, rfl, _, hh, _⟩
  · cases hk
  · cases hk
    exact ⟨cur.toList, by simpa [Blk] using hh⟩
/-- A block of another kind is not the row's. -/
theorem OwnI.ne {w : World} {B : Nat} {v : Value} {xs : List Int} (h : OwnI w B v xs) {g : Nat} {t : TypeId} {cs : List Value} (hb : Blk w g t cs) (ht : t ≠ 3) : v.ownBlock ≠ some g := by
  intro e
  obtain ⟨cs', hc⟩ := h.blk e
  exact hb.ne hc ht rfl

/-- The two lists that the closure 'edge' appends to. -/
structure Edg (w : World) (B bf bt : Nat) (vf vt : Value) (fs ts : List Int) : Prop where
  f : Blk w bf 22 [vf]
  t : Blk w bt 22 [vt]
  fo : OwnI w B vf fs
  to : OwnI w B vt ts
  ap : Apart vf vt
  ne : bf ≠ bt

/-- What a step may turn: the two variables and the two rows. -/
def EdgS (bf bt : Nat) (vf vt : Value) (k : Nat) : Prop := k = bf ∨ k = bt ∨ vf.ownBlock = some k ∨ vt.ownBlock = some k

/-- A value's row is the old one's, or new. -/
def From (w : World) (v v' : Value) : Prop := ∀ k, v'.ownBlock = some k → v.ownBlock = some k ∨ w.heap.size ≤ k
theorem From.refl (w : World) (v : Value) : From w v v := fun _ h => .inl h

theorem Edg.chg {S : Nat → Prop} {w w' : World} {B bf bt : Nat} {vf vt : Value} {fs ts : List Int} (h : Edg w B bf bt vf vt fs ts) (hc : Chg S w w') (hn : ∀ k, EdgS bf bt vf vt k → ¬ S k) : Edg w' B bf bt vf vt fs ts :=
  ⟨h.f.chg hc (hn _ (.inl rfl)), h.t.chg hc (hn _ (.inr (.inl rfl))), h.fo.chg hc (fun k e => hn k (.inr (.inr (.inl e)))), h.to.chg hc (fun k e => hn k (.inr (.inr (.inr e)))), h.ap, h.ne⟩

theorem one_cell {w : World} {g : Nat} {t : TypeId} {v : Value} (h : Blk w g t [v]) : w.cell? ⟨g, 0, none⟩ = some v := by rw [h.cell]; rfl

/-- 'from = append(from, u)': one of the two lists. -/
theorem push_box {w w1 : World} {B b g cap : Nat} {v : Value} {xs : List Int} {y : Int} (hb : Blk w b 22 [v]) (_ho : OwnI w B v xs) (hne : v.ownBlock ≠ some b) (ho1 : OwnI w1 B (.slice (some ⟨g, 0, none⟩) (xs.length + 1) cap) (xs ++ [y]))
    (hc : Chg (fun k => v.ownBlock = some k) w w1) (_hat : v.ownBlock = some g ∨ w.heap.size ≤ g) : Blk w1 b 22 [v] ∧ b ≠ g := by
  have h1 := hb.chg hc (fun e => hne e)
  refine ⟨h1, fun e => ?_⟩
  subst e
  exact ho1.ne h1 (by decide) rfl

theorem edge_end {w w1 w2 : World} {B bf bt g1 cap1 g2 cap2 : Nat} {vf vt : Value} {fs ts : List Int} {u v : Int} (H : Edg w B bf bt vf vt fs ts)
    (ho1 : OwnI w1 B (.slice (some ⟨g1, 0, none⟩) (fs.length + 1) cap1) (fs ++ [u])) (hc1 : Chg (fun k => vf.ownBlock = some k) w w1) (hat1 : vf.ownBlock = some g1 ∨ w.heap.size ≤ g1)
    (ho2 : OwnI w2 B (.slice (some ⟨g2, 0, none⟩) (ts.length + 1) cap2) (ts ++ [v])) (hc2 : Chg (fun k => vt.ownBlock = some k) (w1.setCell ⟨bf, 0, none⟩ (.slice (some ⟨g1, 0, none⟩) (fs.length + 1) cap1)) w2) (hat2 : vt.ownBlock = some g2 ∨ w1.heap.size ≤ g2) :
    Edg (w2.setCell ⟨bt, 0, none⟩ (.slice (some ⟨g2, 0, none⟩) (ts.length + 1) cap2)) B bf bt (.slice (some ⟨g1, 0, none⟩) (fs.length + 1) cap1) (.slice (some ⟨g2, 0, none⟩) (ts.length + 1) cap2) (fs ++ [u]) (ts ++ [v]) ∧
      Chg (EdgS bf bt vf vt) w (w2.setCell ⟨bt, 0, none⟩ (.slice (some ⟨g2, 0, none⟩) (ts.length + 1) cap2)) ∧
      From w vf (.slice (some ⟨g1, 0, none⟩) (fs.length + 1) cap1) ∧ From w vt (.slice (some ⟨g2, 0, none⟩) (ts.length + 1) cap2) := by
  have hg1 := (ho1.lt (k := g1) rfl).2
  have nf := H.fo.ne H.f (by decide)
  have nt := H.to.ne H.t (by decide)
  have nft := H.fo.ne H.t (by decide)
  have ntf := H.to.ne H.f (by decide)
  have bf1 : Blk w1 bf 22 [vf] := H.f.chg hc1 nf
  have bt1 : Blk w1 bt 22 [vt] := H.t.chg hc1 nft
  have e1f : bf ≠ g1 := fun e => ho1.ne bf1 (by decide) (by rw [e]; rfl)
  have e1t : bt ≠ g1 := fun e => ho1.ne bt1 (by decide) (by rw [e]; rfl)
  have vtlt : ∀ k, vt.ownBlock = some k → k < w.heap.size := fun k hk => (H.to.lt hk).2
  have vt1 : vt.ownBlock ≠ some g1 := fun e => by
    rcases hat1 with h | h
    · exact H.ap g1 h e
    · have := vtlt g1 e; omega
  have g12 : g1 ≠ g2 := by
    rcases hat2 with h | h
    · intro e; subst e; exact vt1 h
    · omega
  have sz := hc1.size
  have bfs : Blk (w1.setCell ⟨bf, 0, none⟩ (.slice (some ⟨g1, 0, none⟩) (fs.length + 1) cap1)) bf 22 [.slice (some ⟨g1, 0, none⟩) (fs.length + 1) cap1] := bf1.set 0 _
  have bf2 := bfs.chg hc2 ntf
  have bts : Blk (w1.setCell ⟨bf, 0, none⟩ (.slice (some ⟨g1, 0, none⟩) (fs.length + 1) cap1)) bt 22 [vt] := bt1.other (fun e => H.ne e.symm) _
  have bt2 := bts.chg hc2 nt
  have e2t : bt ≠ g2 := fun e => ho2.ne bt2 (by decide) (by rw [e]; rfl)
  have fo2 := (ho1.chg (Chg.setCell (S := fun k => k = bf) w1 ⟨bf, 0, none⟩ _ rfl) (fun k hk e => e1f (by cases hk; exact e.symm))).chg hc2 (fun k hk e => vt1 (by cases hk; exact e))
  refine ⟨⟨bf2.other (fun e => H.ne e) _, bt2.set 0 _, fo2.chg (Chg.setCell (S := fun k => k = bt) w2 ⟨bt, 0, none⟩ _ rfl) (fun k hk e => e1t (by cases hk; exact e.symm)),
    ho2.chg (Chg.setCell (S := fun k => k = bt) w2 ⟨bt, 0, none⟩ _ rfl) (fun k hk e => e2t (by cases hk; exact e.symm)), fun k h1 h2 => g12 (by cases h1; cases h2; rfl), H.ne⟩, ?_, ?_, ?_⟩
  · refine ((hc1.mono (fun k _ h => .inr (.inr (.inl h)))).trans (Chg.setCell w1 ⟨bf, 0, none⟩ _ (.inl rfl))).trans ((hc2.mono (fun k _ h => .inr (.inr (.inr h)))).trans (Chg.setCell w2 ⟨bt, 0, none⟩ _ (.inr (.inl rfl))))
  · intro k hk
    cases hk
    exact hat1
  · intro k hk
    cases hk
    rcases hat2 with h | h
    · exact .inl h
    · exact .inr (show w.heap.size ≤ g2 by omega)

set_option maxRecDepth 100000 in
set_option maxHeartbeats 2000000 in
theorem edge22_any (u v : Int) (bf bt B : Nat) (vf vt : Value) (fs ts : List Int) (w : World) (h : Edg w B bf bt vf vt fs ts) (hl : fs.length ≤ 1099511627776) (hl2 : ts.length ≤ 1099511627776) (hB : B ≤ w.heap.size) :
    Calls Try.prog 22 #[.int .i64 u, .int .i64 v, .pointer (some ⟨bf, 0, none⟩), .pointer (some ⟨bt, 0, none⟩)] w fun e w' => e = .returned (.tuple #[]) ∧
      ∃ vf' vt', Edg w' B bf bt vf' vt' (if u = v then fs else fs ++ [u]) (if u = v then ts else ts ++ [v]) ∧ Chg (EdgS bf bt vf vt) w w' ∧ From w vf vf' ∧ From w vt vt' := by
  by_cases huv : u = v
  · have hne : (u != v) = false := by simpa using huv
    simp only [if_pos huv]
    clear huv
    go_enter Try.func22, Try.ntmps22
    go_wp2
    go_end0
    exact ⟨rfl, vf, vt, h, Chg.refl _ _, From.refl _ _, From.refl _ _⟩
  · have hne : (u != v) = true := by simpa using huv
    simp only [if_neg huv]
    clear huv
    obtain ⟨af, cf, hvf⟩ := h.fo.form
    obtain ⟨at', ct, hvt⟩ := h.to.form
    have H := hide h
    have cf1 := one_cell h.f
    have ff1 := h.f.free 0
    have nf := hide (h.fo.ne h.f (by decide))
    have nt := hide (h.to.ne h.t (by decide))
    have nft := hide (h.fo.ne h.t (by decide))
    have ntf := hide (h.to.ne h.f (by decide))
    clear h
    subst hvf hvt
    go_enter Try.func22, Try.ntmps22
    have hne1 : ¬ bf = bt := (unhide H).ne
    have hne2 : ¬ bt = bf := fun e => (unhide H).ne e.symm
    go_wp2_with (first
      | (at_builtin; refine wpList_push 22 Try.underlying22 rfl (.tmp 9) (.tmp 11) rfl B (.slice af fs.length cf) fs rfl (unhide H).fo u _ rfl rfl hl hB ?_; intro g1 cap1 w1 ho1 hc1 hat1; have pb1 := hide (push_box (unhide H).f (unhide H).fo (unhide nf) ho1 hc1 hat1); have c1 := one_cell (unhide pb1).1; have f1 := (unhide pb1).1.free 0; have tb1 := hide ((unhide H).t.chg hc1 (unhide nft)); have c2 := one_cell (unhide tb1); have f2 := (unhide tb1).free 0; have to1 := hide ((unhide H).to.chg hc1 (fun k e e' => (unhide H).ap k e' e)))
      | (at_builtin; refine wpList_push 22 Try.underlying22 rfl (.tmp 13) (.tmp 15) rfl B (.slice at' ts.length ct) ts rfl ((unhide to1).chg (Chg.setCell (S := fun k => k = bf) _ _ _ rfl) (fun k e e' => (unhide ntf) (e' ▸ e))) v w1.heap.size (by simp) rfl hl2 (by have := hc1.size; simp [World.setCell]; omega) ?_; intro g2 cap2 w2 ho2 hc2 hat2; have pb2 := hide (push_box ((unhide tb1).other (show bt ≠ bf from hne2) _) ((unhide to1).chg (Chg.setCell (S := fun k => k = bf) _ _ _ rfl) (fun k e e' => (unhide ntf) (e' ▸ e))) (unhide nt) ho2 hc2 hat2); have c3 := one_cell (unhide pb2).1; have f3 := (unhide pb2).1.free 0))
    go_end0
    exact ⟨rfl, _, _, edge_end (unhide H) ho1 hc1 hat1 ho2 hc2 (by simpa using hat2)⟩
end Go.Proofs.Qxb6614980a
