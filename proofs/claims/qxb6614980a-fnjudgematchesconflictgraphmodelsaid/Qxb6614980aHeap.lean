/-
  container/heap over a vertexHeap.
-/
import Derived.Test.Qxb6614980aEdge
import Derived.Deep.DeepCutAuto
import Derived.BigRegion
import Derived.Handy
import Derived.Test.Qxb6614980aHeapL
namespace Go.Proofs.Qxb6614980a
open Go.ChangeShapes Go.WideShapes Go.ChangeAt Go.RowKit

theorem meth_less0 (w : World) (a : Addr) : Sem.run Try.prog (method 199 65 (.pointer (some a)) "Less") w = Sem.run Try.prog (do let v ← loadVar 63 a; pure (49, v)) w := by kernel_rfl
theorem meth_swap0 (w : World) (a : Addr) : Sem.run Try.prog (method 199 65 (.pointer (some a)) "Swap") w = Sem.run Try.prog (do let v ← loadVar 63 a; pure (50, v)) w := by kernel_rfl
theorem meth_len0 (w : World) (a : Addr) : Sem.run Try.prog (method 199 65 (.pointer (some a)) "Len") w = Sem.run Try.prog (do let v ← loadVar 63 a; pure (48, v)) w := by kernel_rfl
theorem meth_pop (w : World) (a : Addr) : Sem.run Try.prog (method 199 65 (.pointer (some a)) "Pop") w = .ok (51, .pointer (some a)) w := by kernel_rfl
theorem meth_push (w : World) (a : Addr) : Sem.run Try.prog (method 199 65 (.pointer (some a)) "Push") w = .ok (52, .pointer (some a)) w := by kernel_rfl
theorem meth_less (w : World) (a : Addr) (v : Value) (h : w.cell? a = some v) : Sem.run Try.prog (method 199 65 (.pointer (some a)) "Less") w = .ok (49, v) w := by
  rw [meth_less0]
  simp [go_sem, h]
theorem meth_swap (w : World) (a : Addr) (v : Value) (h : w.cell? a = some v) : Sem.run Try.prog (method 199 65 (.pointer (some a)) "Swap") w = .ok (50, v) w := by
  rw [meth_swap0]
  simp [go_sem, h]
theorem meth_len (w : World) (a : Addr) (v : Value) (h : w.cell? a = some v) : Sem.run Try.prog (method 199 65 (.pointer (some a)) "Len") w = .ok (48, v) w := by
  rw [meth_len0]
  simp [go_sem, h]

/-- The heap: the variable at block rb holds a slice that owns the numbers xs, in block g. -/
structure Hp (w : World) (B rb g n cap : Nat) (xs : List Int) : Prop where
  v : Blk w rb 63 [.slice (some ⟨g, 0, none⟩) n cap]
  o : OwnI w B (.slice (some ⟨g, 0, none⟩) n cap) xs
  n : n = xs.length
theorem Hp.draws {w : World} {B rb g n cap : Nat} {xs : List Int} (h : Hp w B rb g n cap xs) (d : Nat) : Hp (w.drewN d) B rb g n cap xs := ⟨h.v, h.o, h.n⟩
theorem Hp.ne {w : World} {B rb g n cap : Nat} {xs : List Int} (h : Hp w B rb g n cap xs) : rb ≠ g := fun e => h.o.ne h.v (by decide) (by rw [e]; rfl)
theorem Hp.swap {w w' : World} {B rb g n cap : Nat} {xs ys : List Int} (h : Hp w B rb g n cap xs) (ho : OwnI w' B (.slice (some ⟨g, 0, none⟩) n cap) ys) (hc : Chg (fun k => k = g) w w') (hl : n = ys.length) : Hp w' B rb g n cap ys := ⟨h.v.chg hc h.ne, ho, hl⟩

theorem len48_any (a : Option Addr) (n c : Nat) (w : World) : Calls Try.prog 48 #[.slice a n c] w fun e w' => e = .returned (.int .i64 n) ∧ w' = w := by
  go_enter Try.func48, Try.ntmps48
  go_wp2
  go_returns
  exact ⟨rfl, rfl⟩

set_option maxRecDepth 100000 in
set_option maxHeartbeats 4000000 in
theorem less49_any (w : World) (B g n cap : Nat) (xs : List Int) (h : OwnI w B (.slice (some ⟨g, 0, none⟩) n cap) xs) (hn : n = xs.length) (i j : Nat) (hi : i < n) (hj : j < n) :
    Calls Try.prog 49 #[.slice (some ⟨g, 0, none⟩) n cap, .int .i64 i, .int .i64 j] w fun e w' => e = .returned (.bool (decide (xs.getD i 0 < xs.getD j 0))) ∧ ∃ d, w' = w.drewN d := by
  have ci := h.cell (j := i) (by omega)
  have cj := h.cell (j := j) (by omega)
  generalize xs.getD i 0 = x at ci ⊢
  generalize xs.getD j 0 = y at cj ⊢
  clear h hn
  go_enter Try.func49, Try.ntmps49
  go_wp2_with fail
  go_quiet (fail)
  go_wp2
  go_returns
  exact ⟨rfl, _, rfl⟩

set_option maxRecDepth 100000 in
set_option maxHeartbeats 4000000 in
theorem swap50_any (w : World) (B g n cap : Nat) (xs : List Int) (h : OwnI w B (.slice (some ⟨g, 0, none⟩) n cap) xs) (hn : n = xs.length) (i j : Nat) (hi : i < n) (hj : j < n) :
    Calls Try.prog 50 #[.slice (some ⟨g, 0, none⟩) n cap, .int .i64 i, .int .i64 j] w fun e w' => e = .returned (.tuple #[]) ∧ OwnI w' B (.slice (some ⟨g, 0, none⟩) n cap) (swp xs i j) ∧ Chg (fun k => k = g) w w' := by
  have ci := h.cell (j := i) (by omega)
  have cj := h.cell (j := j) (by omega)
  have fi := h.free i
  have fj := h.free j
  have H := hide h
  unfold swp
  generalize xs.getD i 0 = x at ci ⊢
  generalize xs.getD j 0 = y at cj ⊢
  clear h hn
  by_cases hij : i = j
  · subst hij
    obtain rfl : x = y := by rw [ci] at cj; cases cj; rfl
    go_enter Try.func50, Try.ntmps50
    go_wp2_with fail
    go_region
    go_wp2
    go_returns
    exact ⟨rfl, OwnI.set (OwnI.set (unhide H) i x) i x, (Chg.setCell (S := fun k => k = g) w ⟨g, i, none⟩ (.int .i64 x) rfl).trans ((Chg.setCell (S := fun k => k = g) _ ⟨g, i, none⟩ (.int .i64 x) rfl).trans (Chg.draws _ _ 1))⟩
  · have hji : j ≠ i := fun e => hij e.symm
    go_enter Try.func50, Try.ntmps50
    go_wp2_with fail
    go_region
    go_wp2
    go_returns
    exact ⟨rfl, OwnI.set (OwnI.set (unhide H) i y) j x, (Chg.setCell (S := fun k => k = g) w ⟨g, i, none⟩ (.int .i64 y) rfl).trans ((Chg.setCell (S := fun k => k = g) _ ⟨g, j, none⟩ (.int .i64 x) rfl).trans (Chg.draws _ _ 1))⟩
set_option maxRecDepth 100000 in
set_option maxHeartbeats 4000000 in
theorem up29_any (B rb g n cap : Nat) (xs : List Int) (k : Nat) (w : World) (h : Hp w B rb g n cap xs) (hn : n ≤ 1048576) (hk : k < n) (hu : UpOk xs k) :
    Calls Try.prog 29 #[.iface 65 (.pointer (some ⟨rb, 0, none⟩)), .int .i64 k] w fun e w' => e = .returned (.tuple #[]) ∧ ∃ ys, Hp w' B rb g n cap ys ∧ HeapN ys ys.length ∧ ys.Perm xs ∧ Chg (fun k => k = g) w w' := by
  have H := hide h
  have U := hide hu
  clear h hu
  go_enter Try.func29, Try.ntmps29
  go_wp2
  go_loopw [1] (fun i wr => ∃ (k : Nat) (ys : List Int), i = .int .i64 k ∧ k < n ∧ Hp wr B rb g n cap ys ∧ UpOk ys k ∧ ys.Perm xs ∧ Chg (fun k => k = g) w wr) (fun i _ => (intOf i).toNat)
  case atStart => exact ⟨k, xs, rfl, hk, unhide H, unhide U, List.Perm.refl _, Chg.refl _ _⟩
  case round =>
    obtain ⟨k, ys, rfl, hk, hh, hu, hp, hc⟩ := hrel
    have HH := hide hh
    have HU := hide hu
    have HP := hide hp
    have hml := meth_less wr ⟨rb, 0, none⟩ _ (hh.v.cell 0)
    clear hh hu hp
    by_cases h0 : k = 0
    · subst h0
      go_wp2_with fail
      go_returns
      exact ⟨rfl, ys, unhide HH, up_done (unhide HU) (.inl rfl), unhide HP, hc⟩
    · obtain ⟨p, hpe⟩ : ∃ p, p = (k - 1) / 2 := ⟨_, rfl⟩
      have hq : ((k : Int) - 1).tdiv 2 = (p : Int) := by
        have e : ((k : Int) - 1) = Int.ofNat (k - 1) := by
          show (k : Int) - 1 = ((k - 1 : Nat) : Int)
          omega
        rw [e, hpe]
        rfl
      have hne : ((p : Int) == (k : Int)) = false := by simp; omega
      have hpk : p < k := by omega
      have HPE := hide hpe
      clear hpe
      have hk1 : 1 ≤ k := by omega
      go_wp2_with fail
      refine (less49_any wr B g n cap ys (unhide HH).o (unhide HH).n k p hk (by omega)).mono ?_
      rintro e w2 ⟨rfl, d, rfl⟩
      have hms := meth_swap (wr.drewN d) ⟨rb, 0, none⟩ _ ((unhide HH).v.cell 0)
      by_cases hlt : ys.getD k 0 < ys.getD p 0
      · rw [decide_eq_true hlt]
        have HLT := hide hlt
        clear hlt
        go_wp2_with fail
        refine (swap50_any (wr.drewN d) B g n cap ys (unhide HH).o (unhide HH).n p k (by omega) hk).mono ?_
        rintro e w3 ⟨rfl, ho3, hc3⟩
        have hc4 : Chg (fun k => k = g) w w3 := hc.trans ((Chg.draws _ wr d).trans hc3)
        have HO := hide ho3
        clear ho3
        go_wp2_with fail
        have hlen := (unhide HH).n
        refine ⟨⟨p, swp ys p k, rfl, by omega, ((unhide HH).draws d).swap (unhide HO) hc3 (by rw [swp_len]; exact hlen), ?_, (swp_perm ys p k (by omega) (by omega)).trans (unhide HP), hc4⟩, by simp [intOf]; omega⟩
        have hpe := unhide HPE
        subst hpe
        exact up_step (unhide HU) (by omega) (by omega) (unhide HLT)
      · rw [decide_eq_false hlt]
        have HLT := hide hlt
        clear hlt
        go_wp2_with fail
        go_returns
        refine ⟨rfl, ys, (unhide HH).draws d, up_done (unhide HU) (.inr ?_), unhide HP, hc.trans (Chg.draws _ wr d)⟩
        rw [← unhide HPE]
        exact Int.not_lt.2 (unhide HLT)
/-- Both lists hold the same at m. -/
def SameAt (ys xs : List Int) (m : Nat) : Prop := ys.getD m 0 = xs.getD m 0
theorem less49_int (w : World) (B g n cap : Nat) (xs : List Int) (h : OwnI w B (.slice (some ⟨g, 0, none⟩) n cap) xs) (hn : n = xs.length) (i j : Nat) (hi : i < n) (hj : j < n) (I J : Int) (hI : (i : Int) = I) (hJ : (j : Int) = J) :
    Calls Try.prog 49 #[.slice (some ⟨g, 0, none⟩) n cap, .int .i64 I, .int .i64 J] w fun e w' => e = .returned (.bool (decide (xs.getD i 0 < xs.getD j 0))) ∧ ∃ d, w' = w.drewN d := by
  subst hI hJ
  exact less49_any w B g n cap xs h hn i j hi hj
theorem swap50_int (w : World) (B g n cap : Nat) (xs : List Int) (h : OwnI w B (.slice (some ⟨g, 0, none⟩) n cap) xs) (hn : n = xs.length) (i j : Nat) (hi : i < n) (hj : j < n) (I J : Int) (hI : (i : Int) = I) (hJ : (j : Int) = J) :
    Calls Try.prog 50 #[.slice (some ⟨g, 0, none⟩) n cap, .int .i64 I, .int .i64 J] w fun e w' => e = .returned (.tuple #[]) ∧ OwnI w' B (.slice (some ⟨g, 0, none⟩) n cap) (swp xs i j) ∧ Chg (fun k => k = g) w w' := by
  subst hI hJ
  exact swap50_any w B g n cap xs h hn i j hi hj

set_option maxRecDepth 100000 in
set_option maxHeartbeats 4000000 in
theorem down28_any (B rb g n cap : Nat) (xs : List Int) (m : Nat) (w : World) (h : Hp w B rb g n cap xs) (hn : n ≤ 1048576) (hm : m ≤ n) (hu : DnOk xs m 0) :
    Calls Try.prog 28 #[.iface 65 (.pointer (some ⟨rb, 0, none⟩)), .int .i64 0, .int .i64 m] w fun e w' => IsBool e ∧ ∃ ys, Hp w' B rb g n cap ys ∧ HeapN ys m ∧ ys.Perm xs ∧ SameAt ys xs m ∧ Chg (fun k => k = g) w w' := by
  have H := hide h
  have U := hide hu
  clear h hu
  go_enter Try.func28, Try.ntmps28
  go_wp2
  go_loopw [7] (fun i wr => ∃ (k : Nat) (ys : List Int), i = .int .i64 k ∧ k ≤ n ∧ Hp wr B rb g n cap ys ∧ DnOk ys m k ∧ ys.Perm xs ∧ SameAt ys xs m ∧ Chg (fun k => k = g) w wr) (fun i _ => n - (intOf i).toNat)
  case atStart => exact ⟨0, xs, rfl, by omega, unhide H, unhide U, List.Perm.refl _, rfl, Chg.refl _ _⟩
  case round =>
    obtain ⟨k, ys, rfl, hk, hh, hu, hp, he, hc⟩ := hrel
    have HH := hide hh
    have HU := hide hu
    have HP := hide hp
    have HE := hide he
    have hml := meth_less wr ⟨rb, 0, none⟩ _ (hh.v.cell 0)
    clear hh hu hp he
    by_cases h1 : 2 * k + 1 < m
    · by_cases h2 : 2 * k + 1 + 1 < m
      · go_wp2_with fail
        refine (less49_int wr B g n cap ys (unhide HH).o (unhide HH).n (2 * k + 1 + 1) (2 * k + 1) (by omega) (by omega) _ _ (by omega) (by omega)).mono ?_
        rintro e w2 ⟨rfl, d, hw2⟩
        have hc2 : Chg (fun k => k = g) w w2 := by
          rw [hw2]
          exact hc.trans (Chg.draws _ wr d)
        have H2 : Hid (Hp w2 B rb g n cap ys) := by
          rw [hw2]
          exact (unhide HH).draws d
        clear hw2
        have hml2 := meth_less w2 ⟨rb, 0, none⟩ _ ((unhide H2).v.cell 0)
        by_cases hl1 : ys.getD (2 * k + 1 + 1) 0 < ys.getD (2 * k + 1) 0
        · rw [decide_eq_true hl1]
          have HMIN : Hid (∀ c, 0 < c → c < m → (c - 1) / 2 = k → ys.getD (2 * k + 1 + 1) 0 ≤ ys.getD c 0) := by
            intro c c0 hc hce
            rcases (show c = 2 * k + 1 ∨ c = 2 * k + 1 + 1 by omega) with rfl | rfl
            · exact Int.le_of_lt hl1
            · exact Int.le_refl _
          clear hl1
          go_wp2_with fail
          refine (less49_int w2 B g n cap ys (unhide H2).o (unhide H2).n (2 * k + 1 + 1) k (by omega) (by omega) _ _ (by omega) (by omega)).mono ?_
          rintro e w3 ⟨rfl, d3, hw3⟩
          have hc3 : Chg (fun k => k = g) w w3 := by
            rw [hw3]
            exact hc2.trans (Chg.draws _ w2 d3)
          have H3 : Hid (Hp w3 B rb g n cap ys) := by
            rw [hw3]
            exact (unhide H2).draws d3
          clear hw3
          have hms := meth_swap w3 ⟨rb, 0, none⟩ _ ((unhide H3).v.cell 0)
          by_cases hlt : ys.getD (2 * k + 1 + 1) 0 < ys.getD k 0
          · rw [decide_eq_true hlt]
            have HLT := hide hlt
            clear hlt
            go_wp2_with fail
            refine (swap50_int w3 B g n cap ys (unhide H3).o (unhide H3).n k (2 * k + 1 + 1) (by omega) (by omega) _ _ (by omega) (by omega)).mono ?_
            rintro e w4 ⟨rfl, ho4, hc4⟩
            have HO := hide ho4
            clear ho4
            have hc5 := hc3.trans hc4
            go_wp2_with fail
            have hlen := (unhide HH).n
            refine ⟨⟨2 * k + 1 + 1, swp ys k (2 * k + 1 + 1), by rw [show ((2 * k + 1 + 1 : Nat) : Int) = 2 * (k : Int) + 1 + 1 by omega], by omega, (unhide H3).swap (unhide HO) hc4 (by rw [swp_len]; exact hlen), ?_, (swp_perm ys k (2 * k + 1 + 1) (by omega) (by omega)).trans (unhide HP), ?_, hc5⟩, by simp [intOf]; omega⟩
            · exact dn_step (by omega) (unhide HU) (by omega) (by omega) (by omega) (unhide HLT) (unhide HMIN)
            · unfold SameAt
              rw [swp_at ys k (2 * k + 1 + 1) m (by omega) (by omega), if_neg (by omega), if_neg (by omega)]
              exact unhide HE
          · rw [decide_eq_false hlt]
            have HLT := hide (Int.not_lt.1 hlt)
            clear hlt
            go_wp2_with fail
            go_returns
            refine ⟨isBool _, ys, unhide H3, dn_done (unhide HU) ?_, unhide HP, unhide HE, hc3⟩
            intro c c0 hcm hce
            exact Int.le_trans (unhide HLT) (unhide HMIN c c0 hcm hce)
        · rw [decide_eq_false hl1]
          have HMIN : Hid (∀ c, 0 < c → c < m → (c - 1) / 2 = k → ys.getD (2 * k + 1) 0 ≤ ys.getD c 0) := by
            intro c c0 hc hce
            rcases (show c = 2 * k + 1 ∨ c = 2 * k + 1 + 1 by omega) with rfl | rfl
            · exact Int.le_refl _
            · exact Int.not_lt.1 hl1
          clear hl1
          go_wp2_with fail
          refine (less49_int w2 B g n cap ys (unhide H2).o (unhide H2).n (2 * k + 1) k (by omega) (by omega) _ _ (by omega) (by omega)).mono ?_
          rintro e w3 ⟨rfl, d3, hw3⟩
          have hc3 : Chg (fun k => k = g) w w3 := by
            rw [hw3]
            exact hc2.trans (Chg.draws _ w2 d3)
          have H3 : Hid (Hp w3 B rb g n cap ys) := by
            rw [hw3]
            exact (unhide H2).draws d3
          clear hw3
          have hms := meth_swap w3 ⟨rb, 0, none⟩ _ ((unhide H3).v.cell 0)
          by_cases hlt : ys.getD (2 * k + 1) 0 < ys.getD k 0
          · rw [decide_eq_true hlt]
            have HLT := hide hlt
            clear hlt
            go_wp2_with fail
            refine (swap50_int w3 B g n cap ys (unhide H3).o (unhide H3).n k (2 * k + 1) (by omega) (by omega) _ _ (by omega) (by omega)).mono ?_
            rintro e w4 ⟨rfl, ho4, hc4⟩
            have HO := hide ho4
            clear ho4
            have hc5 := hc3.trans hc4
            go_wp2_with fail
            have hlen := (unhide HH).n
            refine ⟨⟨2 * k + 1, swp ys k (2 * k + 1), by rw [show ((2 * k + 1 : Nat) : Int) = 2 * (k : Int) + 1 by omega], by omega, (unhide H3).swap (unhide HO) hc4 (by rw [swp_len]; exact hlen), ?_, (swp_perm ys k (2 * k + 1) (by omega) (by omega)).trans (unhide HP), ?_, hc5⟩, by simp [intOf]; omega⟩
            · exact dn_step (by omega) (unhide HU) (by omega) (by omega) (by omega) (unhide HLT) (unhide HMIN)
            · unfold SameAt
              rw [swp_at ys k (2 * k + 1) m (by omega) (by omega), if_neg (by omega), if_neg (by omega)]
              exact unhide HE
          · rw [decide_eq_false hlt]
            have HLT := hide (Int.not_lt.1 hlt)
            clear hlt
            go_wp2_with fail
            go_returns
            refine ⟨isBool _, ys, unhide H3, dn_done (unhide HU) ?_, unhide HP, unhide HE, hc3⟩
            intro c c0 hcm hce
            exact Int.le_trans (unhide HLT) (unhide HMIN c c0 hcm hce)
      · have HMIN : Hid (∀ c, 0 < c → c < m → (c - 1) / 2 = k → ys.getD (2 * k + 1) 0 ≤ ys.getD c 0) := by
          intro c c0 hc hce
          obtain rfl : c = 2 * k + 1 := by omega
          exact Int.le_refl _
        go_wp2_with fail
        refine (less49_int wr B g n cap ys (unhide HH).o (unhide HH).n (2 * k + 1) k (by omega) (by omega) _ _ (by omega) (by omega)).mono ?_
        rintro e w3 ⟨rfl, d3, hw3⟩
        have hc3 : Chg (fun k => k = g) w w3 := by
          rw [hw3]
          exact hc.trans (Chg.draws _ wr d3)
        have H3 : Hid (Hp w3 B rb g n cap ys) := by
          rw [hw3]
          exact (unhide HH).draws d3
        clear hw3
        have hms := meth_swap w3 ⟨rb, 0, none⟩ _ ((unhide H3).v.cell 0)
        by_cases hlt : ys.getD (2 * k + 1) 0 < ys.getD k 0
        · rw [decide_eq_true hlt]
          have HLT := hide hlt
          clear hlt
          go_wp2_with fail
          refine (swap50_int w3 B g n cap ys (unhide H3).o (unhide H3).n k (2 * k + 1) (by omega) (by omega) _ _ (by omega) (by omega)).mono ?_
          rintro e w4 ⟨rfl, ho4, hc4⟩
          have HO := hide ho4
          clear ho4
          have hc5 := hc3.trans hc4
          go_wp2_with fail
          have hlen := (unhide HH).n
          refine ⟨⟨2 * k + 1, swp ys k (2 * k + 1), by rw [show ((2 * k + 1 : Nat) : Int) = 2 * (k : Int) + 1 by omega], by omega, (unhide H3).swap (unhide HO) hc4 (by rw [swp_len]; exact hlen), ?_, (swp_perm ys k (2 * k + 1) (by omega) (by omega)).trans (unhide HP), ?_, hc5⟩, by simp [intOf]; omega⟩
          · exact dn_step (by omega) (unhide HU) (by omega) (by omega) (by omega) (unhide HLT) (unhide HMIN)
          · unfold SameAt
            rw [swp_at ys k (2 * k + 1) m (by omega) (by omega), if_neg (by omega), if_neg (by omega)]
            exact unhide HE
        · rw [decide_eq_false hlt]
          have HLT := hide (Int.not_lt.1 hlt)
          clear hlt
          go_wp2_with fail
          go_returns
          refine ⟨isBool _, ys, unhide H3, dn_done (unhide HU) ?_, unhide HP, unhide HE, hc3⟩
          intro c c0 hcm hce
          exact Int.le_trans (unhide HLT) (unhide HMIN c c0 hcm hce)
    · go_wp2_with fail
      go_returns
      exact ⟨isBool _, ys, unhide HH, dn_done (unhide HU) (fun c c0 hc hce => by omega), unhide HP, unhide HE, hc⟩

end Go.Proofs.Qxb6614980a
