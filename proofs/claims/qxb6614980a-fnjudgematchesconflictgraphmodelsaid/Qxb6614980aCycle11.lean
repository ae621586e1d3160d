/-
  zzpb1ModelCycle walked.
-/
import Derived.Test.Qxb6614980aDistTo21
import Derived.Test.Qxb6614980aMod
namespace Go.Proofs.Qxb6614980a
open Go.ChangeShapes Go.WideShapes Go.ChangeAt Go.RowKit

def R11b (items : Rows3) (D : List Int) (n k : Nat) (v7 i : Value) : Prop := ∃ (q : Nat) (best : Int), q ≤ n ∧ i = .int .i64 q ∧ v7 = .int .i64 best ∧ -1 ≤ best ∧ best ≤ n ∧ BestE items D k q best
def R11c (w : World) (s : Nat) (path : List Nat) (vc u r : Value) (wr : World) : Prop := ∃ (i : Nat) (L : List Nat), i ≤ path.length ∧ u = .int .i64 (((s :: path).getD i 0 : Nat) : Int) ∧ r = .int .i64 ((path.length : Int) + 1 - (i : Int)) ∧ L = (s :: path).take (i + 1) ∧ OwnI wr w.heap.size vc (nats L) ∧ Below w.heap.size w wr

set_option maxRecDepth 100000 in
set_option maxHeartbeats 8000000 in
theorem cycle11_any (n s g ce : Nat) (tab : List Bool) (items : Rows3) (D : List Int) (path : List Nat) (w : World) (hE : Rd w (some ⟨g, 0, none⟩) (bools tab)) (hT : TabIs n tab (Ed items)) (hlt : ∀ x u, Ed items x u → x < n ∧ u < n) (hn : n ≤ 256)
    (hs : s < n) (hno : ∀ k, k < s → ¬ OnC (redAll (bares items)) k) (hD : Dist n s items D) (hP : Pth n s items D path) (hne : path ≠ []) (hla : D.getD (lastOf s path) 0 = 1) :
    Calls Try.prog 11 #[.int .i64 (n : Int), .slice (some ⟨g, 0, none⟩) (n * n) ce] w fun e w' => (∃ gc c, e = .returned (.slice (some ⟨gc, 0, none⟩) (path.length + 2) c) ∧ Rd w' (some ⟨gc, 0, none⟩) (ints (nats (s :: path ++ [s])))) ∧ Below w.heap.size w w' := by
  have hcl := cyc_len hP hD
  have hpl := path_len hP hne hla
  have HPL := hide hpl
  have HE := hide hE
  have HT := hide hT
  have HLT := hide hlt
  have HNO := hide hno
  have DD := hide hD
  have PP := hide hP
  have HNE := hide hne
  have C21 : Hid (∀ (w' : World) (k : Nat), k < n → Below w.heap.size w w' → Calls Try.prog 21 #[.int .i64 (n : Int), .slice (some ⟨g, 0, none⟩) (n * n) ce, .int .i64 (k : Int)] w' fun e w'' => (∃ gd c D, e = .returned (.slice (some ⟨gd, 0, none⟩) n c) ∧ w'.heap.size ≤ gd ∧ Dist n k items D ∧ Rd w'' (some ⟨gd, 0, none⟩) (ints D)) ∧ Below w'.heap.size w' w'') :=
    fun w' k hk hb => distTo21_any n k g ce tab items w' (hE.old hb) hT hlt hk hn
  have hpos : 0 < path.length := List.length_pos_iff.2 hne
  clear hE hT hlt hno hD hP hne hla hpl
  obtain ⟨N, hN⟩ : ∃ N, N = n * n := ⟨_, rfl⟩
  have hNb : N ≤ 65536 := by rw [hN]; exact Nat.mul_le_mul hn hn
  rw [← hN]
  rw [← hN] at C21
  have HN := hide hN
  clear hN
  obtain ⟨i0, hi, hz0, hz1, hz2⟩ := info_parts info3
  go_enter Try.func11, Try.ntmps11
  go_wp2_with fail
  go_loopw [5] (fun i wr => ∃ k : Nat, k ≤ s ∧ i = .int .i64 k ∧ Below w.heap.size w wr) (fun i _ => n - (intOf i).toNat)
  case atStart => exact ⟨0, Nat.zero_le _, rfl, Below.refl _ _⟩
  case round =>
    obtain ⟨k, hk, rfl, hbel⟩ := hrel
    have hkn : k < n := by omega
    have C2 := hide (unhide C21 wr k hkn hbel)
    go_wp2_with fail
    refine (unhide C2).mono ?_
    rintro e w2 ⟨⟨gd, c2, D2, rfl, _, hD2, hR2⟩, hb2⟩
    have D2H := hide hD2
    have R2 := hide hR2
    have BL2 := hide (below_trans hbel hb2)
    clear hD2 hR2 hb2 C2 hbel
    obtain ⟨m1, hm1'⟩ : ∃ m1, m1 = k * n := ⟨_, rfl⟩
    have hkn2 : (k : Int) * (n : Int) = (m1 : Int) := by rw [hm1', Int.natCast_mul]
    have HM1 := hide hm1'
    clear hm1'
    go_wp2_with fail
    go_loopw [7, 8] (fun v7 i wr => R11b items D2 n k v7 i ∧ w2 = wr) (fun _ i _ => n - (intOf i).toNat)
    case atStart => exact ⟨⟨0, -1, Nat.zero_le _, rfl, rfl, by omega, by omega, bestE_zero _ _ _⟩, by first | rfl | trivial⟩
    case round =>
      obtain ⟨⟨q, best, hq, rfl, rfl, hb0, hb1, hBE⟩, rfl⟩ := hrel
      have BE := hide hBE
      clear hBE
      by_cases hlq : q < n
      · have hidx := idx_lt hkn hlq
        rw [← unhide HM1, ← unhide HN] at hidx
        obtain ⟨gb, go, ge, hed⟩ := ((unhide HE).old (unhide BL2)).bool (j := m1 + q) (by rw [(unhide HT).1, ← unhide HN]; exact hidx)
        cases ge
        have hti := (unhide HT).2 k q hkn hlq
        rw [← unhide HM1] at hti
        obtain ⟨gb2, go2, ge2, hcd⟩ := (unhide R2).int (j := q) (by rw [(unhide D2H).len]; exact hlq)
        cases ge2
        have hdb := (unhide D2H).ge q hlq
        obtain ⟨te, hte⟩ : ∃ b, b = tab.getD (m1 + q) false := ⟨_, rfl⟩
        obtain ⟨dq, hdq⟩ : ∃ d, d = D2.getD q 0 := ⟨_, rfl⟩
        rw [← hte] at hed hti
        rw [← hdq] at hcd hdb
        rw [Nat.zero_add] at hed hcd
        have HTI := hide hti
        have HDQ := hide hdq
        clear hti hdq hte
        cases te
        · have NX : Hid (BestE items D2 k (q + 1) best) := (unhide BE).skip (fun he _ => absurd ((unhide HTI).2 he) (by simp))
          as_aux_lemma =>
          go_wp2_with fail
          exact ⟨⟨⟨q + 1, best, by omega, by rw [Int.natCast_add]; rfl, rfl, hb0, hb1, unhide NX⟩, by first | rfl | trivial⟩, by simp [intOf]; omega⟩
        · have hedq : Hid (Ed items k q) := (unhide HTI).1 rfl
          by_cases hd0 : dq < 0
          · have NX : Hid (BestE items D2 k (q + 1) best) := (unhide BE).skip (fun _ h0 => by rw [← unhide HDQ] at h0; omega)
            have hd0' : ¬ 0 ≤ dq := by omega
            as_aux_lemma =>
            go_wp2_with fail
            exact ⟨⟨⟨q + 1, best, by omega, by rw [Int.natCast_add]; rfl, rfl, hb0, hb1, unhide NX⟩, by first | rfl | trivial⟩, by simp [intOf]; omega⟩
          · have hd0' : 0 ≤ dq := by omega
            by_cases hbn : best < 0
            · have NX : Hid (BestE items D2 k (q + 1) (dq + 1)) := by
                have := (unhide BE).take (unhide hedq) (by rw [← unhide HDQ]; exact hd0') (.inl hbn)
                rw [← unhide HDQ] at this
                exact this
              as_aux_lemma =>
              go_wp2_with fail
              exact ⟨⟨⟨q + 1, dq + 1, by omega, by rw [Int.natCast_add]; rfl, rfl, by omega, by omega, unhide NX⟩, by first | rfl | trivial⟩, by simp [intOf]; omega⟩
            · by_cases hbl : dq + 1 < best
              · have NX : Hid (BestE items D2 k (q + 1) (dq + 1)) := by
                  have := (unhide BE).take (unhide hedq) (by rw [← unhide HDQ]; exact hd0') (.inr (by rw [← unhide HDQ]; exact hbl))
                  rw [← unhide HDQ] at this
                  exact this
                as_aux_lemma =>
                go_wp2_with fail
                exact ⟨⟨⟨q + 1, dq + 1, by omega, by rw [Int.natCast_add]; rfl, rfl, by omega, by omega, unhide NX⟩, by first | rfl | trivial⟩, by simp [intOf]; omega⟩
              · have NX : Hid (BestE items D2 k (q + 1) best) := (unhide BE).skip (fun _ _ => by rw [← unhide HDQ]; omega)
                as_aux_lemma =>
                go_wp2_with fail
                exact ⟨⟨⟨q + 1, best, by omega, by rw [Int.natCast_add]; rfl, rfl, hb0, hb1, unhide NX⟩, by first | rfl | trivial⟩, by simp [intOf]; omega⟩
      · have hqn9 : n = q := by omega
        subst hqn9
        by_cases hks : k < s
        · have hbest : best = -1 := best_none (unhide D2H) (unhide HNO k hks) (unhide BE)
          as_aux_lemma =>
          subst hbest
          go_wp2_with fail
          exact ⟨⟨k + 1, by omega, by rw [Int.natCast_add]; rfl, unhide BL2⟩, by simp [intOf]; omega⟩
        · obtain rfl : k = s := by omega
          have hDD : D2 = D := dist_uniq (unhide D2H) (unhide DD)
          subst hDD
          have hbest := best_some (unhide DD) (unhide PP) (unhide HNE) (unhide BE)
          rw [← unhide HPL] at hbest
          have R2' := R2
          as_aux_lemma =>
          subst hbest
          have hsz2 := (unhide BL2).size
          go_upto_region 13 with (at_make; refine wpList_make_own _ rfl _ _ 22 rfl w2.heap.size 3 i0 (.int .i64 0) 1 Try.underlying22 hi hz0 hz1 _ _ _ (path.length + 2) rfl rfl (by simp; omega) (by rw [hz2]; omega) (by unfold maxLen; omega) (Nat.le_refl _) ?_; intro w3 ho3 hg3)
          have hc3 : Chg (fun _ => False) w2 w3 := Chg.grown hg3 (fun k e => by cases e)
          have O3 : Hid (OwnI w3 w2.heap.size (.slice (some ⟨w2.heap.size, 0, none⟩) 0 (path.length + 2)) (nats [])) := ho3
          have BL3 : Hid (Below w2.heap.size w2 w3) := hc3.below (Nat.le_refl _) (fun _ e => e.elim)
          have hsz3 : w2.heap.size ≤ w3.heap.size := (unhide BL3).size
          clear ho3 hg3 hc3
          go_upto_region 14 with (at_builtin; refine wpList_push 22 Try.underlying22 rfl (.tmp 66) (.tmp 68) rfl w2.heap.size (.slice (some ⟨w2.heap.size, 0, none⟩) 0 (path.length + 2)) (nats []) rfl (unhide O3) (k : Int) w3.heap.size rfl rfl (by simp [nats]) hsz3 ?_; rw [nats_len]; intro g4 cap4 w4 ho4 hc4 hat4; have HO4 := hide ho4; clear ho4)
          have S4 : Hid (R11c w2 k path (.slice (some ⟨g4, 0, none⟩) 1 cap4) (.int .i64 (k : Int)) (.int .i64 ((path.length : Int) + 1)) w4) :=
            ⟨0, [k], Nat.zero_le _, rfl, by simp, by simp, unhide HO4, (unhide BL3).trans (hc4.below hsz3 (fun j e => ((unhide O3).lt e).1))⟩
          clear HO4 hc4 hat4 O3 BL3 hsz3
          go_wp2_with fail
          go_loopw [9, 10, 11] (fun vc u r wr => R11c w2 k path vc u r wr) (fun _ _ r _ => (intOf r).toNat)
          case atStart => exact unhide S4
          case round =>
            clear S4
            obtain ⟨i, L, hi2, rfl, rfl, hL, ho, hb⟩ := hrel
            have HL := hide hL
            have O5 := hide ho
            have B5 := hide hb
            have hLl : L.length = i + 1 := by rw [hL, List.length_take]; simp; omega
            clear hL ho hb
            obtain ⟨va, vc2, hvc⟩ := (unhide O5).form
            rw [nats_len, hLl] at hvc
            subst hvc
            by_cases hip : i < path.length
            · obtain ⟨hp1, hp2, hp3⟩ := pick_is (unhide PP) hip
              obtain ⟨u, hu⟩ : ∃ u, u = (k :: path).getD i 0 := ⟨_, rfl⟩
              obtain ⟨x, hx⟩ : ∃ x, x = path.getD i 0 := ⟨_, rfl⟩
              rw [← hu]
              rw [← hu, ← hx] at hp1 hp3
              rw [← hx, ← unhide HPL] at hp2
              rw [← unhide HPL] at hp3
              obtain ⟨hun, hxn⟩ := unhide HLT u x hp1
              have HP1 := hide hp1
              have HP2 := hide hp2
              have HP3 := hide hp3
              have HU := hide hu
              have HX := hide hx
              obtain ⟨m3, hm3'⟩ : ∃ m3, m3 = u * n := ⟨_, rfl⟩
              have hun2 : (u : Int) * (n : Int) = (m3 : Int) := by rw [hm3', Int.natCast_mul]
              have HM3 := hide hm3'
              clear hm3' hp1 hp2 hp3 hu hx
              have hr1 : (1 : Int) < (path.length : Int) + 1 - (i : Int) := by omega
              obtain ⟨r0, hr0⟩ : ∃ r0 : Int, r0 = (path.length : Int) + 1 - (i : Int) := ⟨_, rfl⟩
              rw [← hr0] at hr1 ⊢
              have hr0b : r0 ≤ 4096 := by omega
              have HR0 := hide hr0
              clear hr0
              as_aux_lemma =>
              obtain ⟨w5, hw5⟩ : ∃ x, x = wr := ⟨_, rfl⟩
              subst hw5
              go_wp2_with fail
              go_loopw [13] (fun i wr => ∃ q : Nat, q ≤ x ∧ i = .int .i64 q ∧ w5 = wr) (fun i _ => n - (intOf i).toNat)
              case atStart => exact ⟨0, Nat.zero_le _, rfl, by first | rfl | trivial⟩
              case round =>
                obtain ⟨q, hqx, rfl, rfl⟩ := hrel
                have hlq : q < n := by omega
                have hidx := idx_lt hun hlq
                rw [← unhide HM3, ← unhide HN] at hidx
                obtain ⟨gb, go, ge, hed⟩ := (((unhide HE).old (unhide BL2)).old (unhide B5)).bool (j := m3 + q) (by rw [(unhide HT).1, ← unhide HN]; exact hidx)
                cases ge
                have hti := (unhide HT).2 u q hun hlq
                rw [← unhide HM3] at hti
                obtain ⟨gb2, go2, ge2, hcd⟩ := ((unhide R2').old (unhide B5)).int (j := q) (by rw [(unhide DD).len]; exact hlq)
                cases ge2
                have hdb := (unhide DD).ge q hlq
                obtain ⟨te, hte⟩ : ∃ b, b = tab.getD (m3 + q) false := ⟨_, rfl⟩
                obtain ⟨dq, hdq⟩ : ∃ d, d = D2.getD q 0 := ⟨_, rfl⟩
                rw [← hte] at hed hti
                rw [← hdq] at hcd hdb
                rw [Nat.zero_add] at hed hcd
                have HTI := hide hti
                have HDQ := hide hdq
                clear hti hdq hte
                have hr0e : r0 - 1 = (path.length : Int) - (i : Int) := by rw [unhide HR0]; omega
                by_cases hqx2 : q = x
                · have hte : te = true := (unhide HTI).2 (by rw [hqx2]; exact unhide HP1)
                  have hdq : dq = r0 - 1 := by rw [unhide HDQ, hqx2, hr0e]; exact unhide HP2
                  subst hte hqx2
                  have hdq' : (dq == r0 - 1) = true := by simp [hdq]
                  have hx0 : ¬ (q : Int) < 0 := by omega
                  have hsz5 := (unhide B5).size
                  clear hdq hr0e
                  as_aux_lemma =>
                  go_wp2_with (at_builtin; refine wpList_push 22 Try.underlying22 rfl (.tmp 101) (.tmp 103) rfl w2.heap.size (.slice va (i + 1) vc2) (nats L) rfl (unhide O5) (q : Int) w5.heap.size rfl rfl (by rw [nats_len]; omega) hsz5 ?_; rw [nats_len, hLl]; intro g9 cap9 w9 ho9 hc9 hat9; have HO9 := hide ho9; clear ho9)
                  refine ⟨⟨i + 1, L ++ [q], by omega, ?_, ?_, ?_, ?_, (unhide B5).trans (hc9.below hsz5 (fun j e => ((unhide O5).lt e).1))⟩, by simp [intOf]; omega⟩
                  · have : (k :: path).getD (i + 1) 0 = path.getD i 0 := by simp
                    rw [this, ← unhide HX]
                  · rw [unhide HR0]
                    congr 1
                    omega
                  · rw [List.take_succ_eq_append_getElem (by simp; omega), ← unhide HL]
                    congr 2
                    have e1 : (k :: path)[i + 1]'(by simp; omega) = path[i] := by simp
                    rw [e1, unhide HX]
                    simp [List.getD, hip]
                  · have e1 : nats (L ++ [q]) = nats L ++ [(q : Int)] := by simp [nats]
                    rw [e1]
                    exact unhide HO9
                · have hql : q < x := by omega
                  have NOT : Hid (¬ (te = true ∧ dq = r0 - 1)) := fun h => by
                    have h1 := unhide HP3 q ((unhide HTI).1 h.1) (by rw [← unhide HDQ, h.2, hr0e])
                    omega
                  clear hr0e
                  cases te
                  · as_aux_lemma =>
                    go_wp2_with fail
                    exact ⟨⟨q + 1, by omega, by rw [Int.natCast_add]; rfl, by first | rfl | trivial⟩, by simp [intOf]; omega⟩
                  · have hdq' : (dq == r0 - 1) = false := by
                      have : ¬ dq = r0 - 1 := fun h => unhide NOT ⟨rfl, h⟩
                      simp [this]
                    as_aux_lemma =>
                    go_wp2_with fail
                    exact ⟨⟨q + 1, by omega, by rw [Int.natCast_add]; rfl, by first | rfl | trivial⟩, by simp [intOf]; omega⟩
            · obtain rfl : i = path.length := by omega
              have hr1 : (path.length : Int) + 1 - (path.length : Int) = 1 := by omega
              rw [hr1]
              have hsz5 := (unhide B5).size
              as_aux_lemma =>
              go_wp2_with (at_builtin; refine wpList_push 22 Try.underlying22 rfl (.tmp 106) (.tmp 108) rfl w2.heap.size (.slice va (path.length + 1) vc2) (nats L) rfl (unhide O5) (k : Int) wr.heap.size rfl rfl (by rw [nats_len]; omega) hsz5 ?_; rw [nats_len, hLl]; intro g9 cap9 w9 ho9 hc9 hat9; have HO9 := hide ho9; clear ho9)
              go_returns
              refine ⟨⟨g9, cap9, rfl, ?_⟩, (unhide BL2).trans ((((unhide B5).trans (hc9.below hsz5 (fun j e => ((unhide O5).lt e).1))).mono (unhide BL2).size))⟩
              have e1 : nats (k :: path ++ [k]) = nats L ++ [(k : Int)] := by
                rw [unhide HL, List.take_of_length_le (by simp)]
                simp [nats]
              rw [show nats (k :: (path ++ [k])) = nats L ++ [(k : Int)] from e1]
              exact (unhide HO9).rd
end Go.Proofs.Qxb6614980a
