/-
  The walk of 'FnMultiErrorUnwrapSplitsAtAnyCut'.
-/
import Derived.Test.Qxb6615096aUnwrap
import Derived.Deep.QuietTactic
import Derived.BigQuiet
import Derived.LaidEqlPtr
namespace Go.Proofs.Qxb6615096a
open Go.ChangeShapes Go.WideShapes Go.ChangeAt Go.RowKit

theorem Fill.row {w : World} {g n : Nat} {vs : List Value} (h : Fill w g n vs) (hl : vs.length = n) (hp : ∀ v ∈ vs, IsPtr v) : Row w (some ⟨g, 0, none⟩) n vs :=
  ⟨hl, hp, fun j hj => ⟨g, 0, rfl, by rw [Nat.zero_add]; exact h.held j (by omega)⟩⟩

theorem Row.take {w : World} {g n m : Nat} {vs : List Value} (h : Row w (some ⟨g, 0, none⟩) n vs) (hm : m ≤ n) : Row w (some ⟨g, 0, none⟩) m (vs.take m) := by
  refine ⟨by rw [List.length_take, h.len]; omega, fun v hv => h.isPtr v (List.mem_of_mem_take hv), fun j hj => ?_⟩
  obtain ⟨b, off, e, hc⟩ := h.held j (by omega)
  exact ⟨b, off, e, by rw [hc, List.getElem?_take, if_pos hj]⟩

theorem Row.drop {w : World} {g n m : Nat} {vs : List Value} (h : Row w (some ⟨g, 0, none⟩) n vs) (hm : m ≤ n) : Row w (some ⟨g, m, none⟩) (n - m) (vs.drop m) := by
  refine ⟨by rw [List.length_drop, h.len], fun v hv => h.isPtr v (List.mem_of_mem_drop hv), fun j hj => ?_⟩
  obtain ⟨b, off, e, hc⟩ := h.held (m + j) (by omega)
  injection e with e
  injection e with e1 e2 e3
  subst e1 e2
  exact ⟨g, m, rfl, by rw [Nat.zero_add] at hc; rw [hc, List.getElem?_drop]⟩

theorem Row.none {w : World} {a : Option Addr} {n : Nat} {vs : List Value} (hl : vs.length = n) : Row w a 0 (vs.drop n) := by
  have : vs.drop n = [] := List.drop_eq_nil_of_le (by omega)
  rw [this]
  exact ⟨rfl, (fun v hv => by cases hv), fun j hj => absurd hj (Nat.not_lt_zero _)⟩

theorem cell_box (w : World) (v : Value) (t : TypeId) : (w.alloc (.cells #[v] t)).cell? ⟨w.heap.size, 0, none⟩ = some v := by
  simp only [World.cell?, heap_new]
  simp
theorem below_box (w : World) (o : Obj) : Below w.heap.size w (w.alloc o) := (Below.refl _ _).alloc (Nat.le_refl _) _

theorem Fill.below' {w w' : World} {g n : Nat} {vs : List Value} (h : Fill w g n vs) (hb : Below w.heap.size w w') : Fill w' g n vs := by
  by_cases hn : 0 < n
  · exact h.below hb (h.lt hn)
  · obtain rfl : n = 0 := by omega
    have : vs = [] := List.eq_nil_of_length_eq_zero (by have := h.len; omega)
    subst this
    exact ⟨Nat.zero_le _, fun j hj => absurd hj (Nat.not_lt_zero _), fun j hj => absurd hj (Nat.not_lt_zero _), fun j hj => absurd hj (Nat.not_lt_zero _)⟩

theorem neq31 (q : Nat) (w : World) : (binOp .neq 31 (.pointer (some ⟨q, 0, none⟩)) (.pointer (some ⟨q, 0, none⟩))).run Try.prog w = .ok (.bool false) w := by
  obtain ⟨j, hj⟩ : ∃ j, Try.prog.info? 42 = some j := Option.isSome_iff_exists.1 (by kernel_rfl)
  have h : ∀ d : Nat, (Op.equalIn (d + 1) 31 (.pointer (some ⟨q, 0, none⟩)) (.pointer (some ⟨q, 0, none⟩))).run Try.prog w = .ok true w := fun d => by
    simp [Op.equalIn, run_underlying Try.underlying31, sizeOf, typeInfo, hj, run_sameAddr_same]
  simp only [binOp]
  simp [Op.equal, Op.maxDepth, h 9999]

theorem below_draws {B : Nat} {a w : World} (h : Below B a w) (n : Nat) : Below B a (w.drewN n) := h.trans ⟨rfl, rfl, rfl, Nat.le_refl _, fun _ _ => rfl⟩

/-- Two cells that hold one pointer. -/
theorem Fill.at {w : World} {g n : Nat} {vs : List Value} (h : Fill w g n vs) (hp : ∀ v ∈ vs, IsPtr v) {k : Nat} (hk : k < vs.length) : ∃ q, vs[k]? = some (.pointer (some ⟨q, 0, none⟩)) ∧ w.cell? ⟨g, k, none⟩ = some (.pointer (some ⟨q, 0, none⟩)) := by
  obtain ⟨q, hq⟩ := hp vs[k] (List.getElem_mem hk)
  have : vs[k]? = some (.pointer (some ⟨q, 0, none⟩)) := by rw [List.getElem?_eq_getElem hk, hq]
  exact ⟨q, this, by rw [h.held k hk, this]⟩

set_option maxRecDepth 100000 in
set_option maxHeartbeats 4000000 in
theorem walk3 (a : Option Addr) (n c : Nat) (i : Int) (w : World) (h : Binds w a n) :
    Calls Try.prog 3 #[.slice a n c, .int .i64 i] w fun e w' => e = .returned (.bool true) ∧ Below w.heap.size w w' := by
  have H := hide h
  clear h
  go_enter Try.func3, Try.ntmps3
  go_wp2_with fail
  refine (bytes4_any a n c _ _ (unhide H)).mono ?_
  rintro e w' ⟨⟨r, rfl⟩, rfl⟩
  cases r
  · go_wp2
    go_ret
    exact ⟨rfl, Below.refl _ _⟩
  go_wp2_with fail
  refine (big5_any a n c _ (unhide H)).mono ?_
  rintro e w1 ⟨⟨r, rfl, hr⟩, hB⟩
  cases r
  case' true =>
    go_wp2
    go_ret
    exact ⟨rfl, hB⟩
  have hn := hr rfl
  clear hr
  replace H := hide ((unhide H).below hB)
  by_cases hk0 : 0 ≤ i
  · by_cases hk1 : i ≤ n
    · obtain ⟨m, rfl⟩ := Int.eq_ofNat_of_zero_le hk0
      go_wp2_with fail
      refine (build6_any a n c _ (unhide H) hn).mono ?_
      rintro e w2 ⟨rfl, ⟨vs, hl, hp, hF⟩, hB2⟩
      replace hB := below_trans hB hB2
      have R := hide (hF.row hl hp)
      have HL := hide hl
      have HP := hide hp
      clear hl hp hB2 hF H
      go_wp2_with fail
      refine (unwrap7_any _ _ n n vs _ (cell_box _ _ _) ((unhide R).below (below_box _ _)) hn).mono ?_
      rintro e w3 ⟨⟨gu, rfl, hgu, FU⟩, b3⟩
      replace b3 := below_trans (below_box _ _) b3
      replace hB := below_trans hB b3
      replace R := hide ((unhide R).below b3)
      have FU := hide FU
      clear b3 hgu
      have hmn : m ≤ n := by omega
      go_wp2_with fail
      refine (unwrap7_any _ _ m n (vs.take m) _ (cell_box _ _ _) (((unhide R).take hmn).below (below_box _ _)) (by omega)).mono ?_
      rintro e w4 ⟨⟨ga, rfl, hga, FA⟩, b4⟩
      replace b4 := below_trans (below_box _ _) b4
      replace hB := below_trans hB b4
      replace R := hide ((unhide R).below b4)
      replace FU := hide ((unhide FU).below' b4)
      have FA := hide FA
      clear b4 hga
      by_cases hmx : n = m
      · subst hmx
        go_wp2_with fail
        refine (unwrap7_any _ _ 0 _ (vs.drop n) _ (cell_box _ _ _) ((Row.none (unhide HL)).below (below_box w4 _)) (by omega)).mono ?_
        rintro e w5 ⟨⟨gb, rfl, hgb, FB⟩, b5⟩
        replace b5 := below_trans (below_box _ _) b5
        replace hB := below_trans hB b5
        replace R := hide ((unhide R).below b5)
        replace FU := hide ((unhide FU).below' b5)
        replace FA := hide ((unhide FA).below' b5)
        have FB := hide FB
        clear b5 hgb
        go_wp2_with fail
        go_loopw [66] (fun i wr => ∃ (k d : Nat), k ≤ n ∧ i = .int .i64 k ∧ wr = w5.drewN d) (fun i _ => n - (intOf i).toNat)
        case atStart => exact ⟨0, 0, Nat.zero_le _, rfl, rfl⟩
        case round =>
          obtain ⟨k, d, hk, rfl, rfl⟩ := hrel
          by_cases hlt : k < n
          · obtain ⟨q, hq, hcu⟩ := (unhide FU).at (unhide HP) (show k < vs.length by rw [unhide HL]; exact hlt)
            have hcl : w5.cell? ⟨w1.heap.size, k, none⟩ = some (.pointer (some ⟨q, 0, none⟩)) := by
              obtain ⟨b, off, e, hc⟩ := (unhide R).held k hlt
              injection e with e
              injection e with e1 e2 e3
              subst e1 e2
              rw [Nat.zero_add] at hc
              rw [hc, hq]
            clear hq
            have hlti : (k : Int) < (n : Int) := by omega
            have hneq := neq31 q
            go_wp2_with fail
            go_quiet (fail)
            go_wp2
            go_roundw
            case rel => exact ⟨k + 1, d + nq, by omega, by go_num, rfl⟩
            case measure => simp [intOf]; omega
          · have hgei : ¬ (k : Int) < (n : Int) := by omega
            go_wp2_with fail
            go_loopw [81] (fun i wr => ∃ (k d : Nat), k ≤ n ∧ i = .int .i64 k ∧ wr = w5.drewN d) (fun i _ => n - (intOf i).toNat)
            case atStart => exact ⟨0, d, Nat.zero_le _, rfl, rfl⟩
            case round =>
              obtain ⟨k', d', hk', rfl, rfl⟩ := hrel
              by_cases hlt' : k' < n
              · obtain ⟨q, hq, hcu⟩ := (unhide FU).at (unhide HP) (show k' < vs.length by rw [unhide HL]; omega)
                have hca : w5.cell? ⟨ga, k', none⟩ = some (.pointer (some ⟨q, 0, none⟩)) := by
                  rw [(unhide FA).held k' (by rw [List.length_take, unhide HL]; omega), List.getElem?_take, if_pos hlt', hq]
                clear hq
                have hlti : (k' : Int) < (n : Int) := by omega
                have hlti2 : (k' : Int) < (n : Int) := by omega
                have hneq := neq31 q
                go_wp2_with fail
                go_quiet (fail)
                go_wp2
                go_roundw
                case rel => exact ⟨k' + 1, d' + nq, by omega, by go_num, rfl⟩
                case measure => simp [intOf]; omega
              · have hgei' : ¬ (k' : Int) < (n : Int) := by omega
                go_wp2_with fail
                go_loopw [96] (fun i wr => ∃ (d : Nat), i = .int .i64 0 ∧ wr = w5.drewN d) (fun _ _ => 0)
                case atStart => exact ⟨d', rfl, rfl⟩
                case round =>
                  obtain ⟨d2, rfl, rfl⟩ := hrel
                  go_wp2
                  go_ret
                  exact ⟨rfl, below_draws hB d2⟩
      · have hlt1 : m < n := by omega
        clear hmx
        go_wp2_with fail
        refine (unwrap7_any _ _ (n - m) _ (vs.drop m) _ (cell_box _ _ _) (((unhide R).drop hmn).below (below_box _ _)) (by omega)).mono ?_
        rintro e w5 ⟨⟨gb, rfl, hgb, FB⟩, b5⟩
        replace b5 := below_trans (below_box _ _) b5
        replace hB := below_trans hB b5
        replace R := hide ((unhide R).below b5)
        replace FU := hide ((unhide FU).below' b5)
        replace FA := hide ((unhide FA).below' b5)
        have FB := hide FB
        clear b5 hgb
        have hsub : (((n - m : Nat) : Int) != (n : Int) - (m : Int)) = false := by simp; omega
        go_wp2_with fail
        go_loopw [66] (fun i wr => ∃ (k d : Nat), k ≤ n ∧ i = .int .i64 k ∧ wr = w5.drewN d) (fun i _ => n - (intOf i).toNat)
        case atStart => exact ⟨0, 0, Nat.zero_le _, rfl, rfl⟩
        case round =>
          obtain ⟨k, d, hk, rfl, rfl⟩ := hrel
          by_cases hlt : k < n
          · obtain ⟨q, hq, hcu⟩ := (unhide FU).at (unhide HP) (show k < vs.length by rw [unhide HL]; exact hlt)
            have hcl : w5.cell? ⟨w1.heap.size, k, none⟩ = some (.pointer (some ⟨q, 0, none⟩)) := by
              obtain ⟨b, off, e, hc⟩ := (unhide R).held k hlt
              injection e with e
              injection e with e1 e2 e3
              subst e1 e2
              rw [Nat.zero_add] at hc
              rw [hc, hq]
            clear hq
            have hlti : (k : Int) < (n : Int) := by omega
            have hneq := neq31 q
            go_wp2_with fail
            go_quiet (fail)
            go_wp2
            go_roundw
            case rel => exact ⟨k + 1, d + nq, by omega, by go_num, rfl⟩
            case measure => simp [intOf]; omega
          · have hgei : ¬ (k : Int) < (n : Int) := by omega
            go_wp2_with fail
            go_loopw [81] (fun i wr => ∃ (k d : Nat), k ≤ m ∧ i = .int .i64 k ∧ wr = w5.drewN d) (fun i _ => m - (intOf i).toNat)
            case atStart => exact ⟨0, d, Nat.zero_le _, rfl, rfl⟩
            case round =>
              obtain ⟨k', d', hk', rfl, rfl⟩ := hrel
              by_cases hlt' : k' < m
              · obtain ⟨q, hq, hcu⟩ := (unhide FU).at (unhide HP) (show k' < vs.length by rw [unhide HL]; omega)
                have hca : w5.cell? ⟨ga, k', none⟩ = some (.pointer (some ⟨q, 0, none⟩)) := by
                  rw [(unhide FA).held k' (by rw [List.length_take, unhide HL]; omega), List.getElem?_take, if_pos hlt', hq]
                clear hq
                have hlti : (k' : Int) < (m : Int) := by omega
                have hlti2 : (k' : Int) < (n : Int) := by omega
                have hneq := neq31 q
                go_wp2_with fail
                go_quiet (fail)
                go_wp2
                go_roundw
                case rel => exact ⟨k' + 1, d' + nq, by omega, by go_num, rfl⟩
                case measure => simp [intOf]; omega
              · have hgei' : ¬ (k' : Int) < (m : Int) := by omega
                go_wp2_with fail
                go_loopw [96] (fun i wr => ∃ (k d : Nat), k ≤ n - m ∧ i = .int .i64 k ∧ wr = w5.drewN d) (fun i _ => (n - m) - (intOf i).toNat)
                case atStart => exact ⟨0, d', Nat.zero_le _, rfl, rfl⟩
                case round =>
                  obtain ⟨k2, d2, hk2, rfl, rfl⟩ := hrel
                  by_cases hlt2 : k2 < n - m
                  · obtain ⟨q, hq, hcu⟩ := (unhide FU).at (unhide HP) (show m + k2 < vs.length by rw [unhide HL]; omega)
                    have hcb : w5.cell? ⟨gb, k2, none⟩ = some (.pointer (some ⟨q, 0, none⟩)) := by
                      rw [(unhide FB).held k2 (by rw [List.length_drop, unhide HL]; omega), List.getElem?_drop, hq]
                    clear hq
                    have hlti : (k2 : Int) < ((n - m : Nat) : Int) := by omega
                    have hlti2 : (m : Int) + (k2 : Int) < (n : Int) := by omega
                    have hneq := neq31 q
                    go_wp2_with fail
                    go_quiet (fail)
                    go_wp2
                    go_roundw
                    case rel => exact ⟨k2 + 1, d2 + nq, by omega, by go_num, rfl⟩
                    case measure => simp [intOf]; omega
                  · have hgei2 : ¬ (k2 : Int) < ((n - m : Nat) : Int) := by omega
                    go_wp2
                    go_ret
                    exact ⟨rfl, below_draws hB d2⟩
    · go_wp2
      go_ret
      exact ⟨rfl, hB⟩
  · go_wp2
    go_ret
    exact ⟨rfl, hB⟩
end Go.Proofs.Qxb6615096a
