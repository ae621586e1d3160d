/-
  The walks of 'zzHexValue', 'isUUID', 'ZZisUUID'.
-/
import Derived.Test.Qxb6609019aRows
import Derived.Test.Qxb6609019aPlain
import Derived.WalkKit
import Derived.ProofKit
import Derived.Below
import Derived.Lib.ConvBytes
namespace Go.Proofs.Qxb6609019a
open Go.ChangeShapes Go.WideShapes Go.ChangeAt Go.RowKit

theorem hide {p : Prop} (h : p) : Hid p := h
theorem unhide {p : Prop} (h : Hid p) : p := h

/-- It returns an int that is not below 0 just where n is a hex digit. -/
def HexSays (n : Int) (e : Ending) : Prop := ∃ r : Int, e = .returned (.int .i64 r) ∧ decide (0 ≤ r) = isHexN n

/-- The k-th digit. -/
def digN (k : Nat) : Int := if k < 10 then 48 + k else 87 + k

theorem dig_hex (k : Nat) (hk : k < 16) : isHexN (digN k) = true := by
  unfold digN isHexN
  by_cases h : k < 10
  · rw [if_pos h, Bool.or_eq_true]; left; simp; omega
  · rw [if_neg h, Bool.or_eq_true]; right; simp; omega

theorem hex_none (n : Int) (h : ∀ j, j < 16 → digN j ≠ n) : isHexN n = false := by
  rw [Bool.eq_false_iff]
  intro e
  unfold isHexN at e
  rw [Bool.or_eq_true] at e
  rcases e with e | e
  · have e := of_decide_eq_true e
    refine h (n - 48).toNat (by omega) ?_
    unfold digN
    rw [if_pos (by omega)]
    omega
  · have e := of_decide_eq_true e
    refine h (n - 87).toNat (by omega) ?_
    unfold digN
    rw [if_neg (by omega)]
    omega

theorem dig_fin : ∀ k : Fin 16, (((#[48, 49, 50, 51, 52, 53, 54, 55, 56, 57, 97, 98, 99, 100, 101, 102] : Array UInt8)[k]).toNat : Int) = digN k.val := by decide
theorem dig_at (k : Nat) (hk : k < 16) (h : k < (ByteArray.mk #[48, 49, 50, 51, 52, 53, 54, 55, 56, 57, 97, 98, 99, 100, 101, 102]).size) :
    (((ByteArray.mk #[48, 49, 50, 51, 52, 53, 54, 55, 56, 57, 97, 98, 99, 100, 101, 102])[k]'h).toNat : Int) = digN k := dig_fin ⟨k, hk⟩

theorem hex_hit (n : Int) (k : Nat) (hk : k < 16) (h : (digN k == n) = true) : HexSays n (.returned (.int .i64 k)) := by
  have e : digN k = n := by simpa using h
  refine ⟨k, rfl, ?_⟩
  rw [← e, dig_hex k hk]
  simp
theorem hex_miss (n : Int) (h : ∀ j, j < 16 → digN j ≠ n) : HexSays n (.returned (.int .i64 (-1))) := by
  refine ⟨-1, rfl, ?_⟩
  rw [hex_none n h]
  rfl

set_option maxHeartbeats 1000000 in
theorem hex_any (n : Int) (w : World) :
    Calls Try.prog 11 #[.int .u8 n] w fun e w' => HexSays n e ∧ w' = w := by
  go_enter Try.func11, Try.ntmps11
  go_wp2
  go_loop [3] (fun v => ∃ k : Nat, k ≤ 16 ∧ v = .int .i64 k ∧ ∀ j, j < k → digN j ≠ n) (fun v => 16 - (intOf v).toNat)
  case atStart => exact ⟨0, Nat.zero_le _, rfl, fun j hj => absurd hj (Nat.not_lt_zero _)⟩
  case round =>
    obtain ⟨k, hk, rfl, hne⟩ := hrel
    have HN := hide hne
    clear hne
    by_cases hlt : k < 16
    · have hsz : k < (ByteArray.mk #[48, 49, 50, 51, 52, 53, 54, 55, 56, 57, 97, 98, 99, 100, 101, 102]).size := hlt
      have hd := hide (dig_at k hlt hsz)
      go_wp2
      · have ht : (((ByteArray.mk #[48, 49, 50, 51, 52, 53, 54, 55, 56, 57, 97, 98, 99, 100, 101, 102])[k]'hsz).toNat == n) = true := by assumption
        rw [unhide hd] at ht
        go_ret
        exact ⟨hex_hit n k hlt ht, rfl⟩
      · have ht : (((ByteArray.mk #[48, 49, 50, 51, 52, 53, 54, 55, 56, 57, 97, 98, 99, 100, 101, 102])[k]'hsz).toNat == n) = false := by assumption
        rw [unhide hd] at ht
        go_round
        case rel =>
          refine ⟨k + 1, by omega, by go_num, fun j hj => ?_⟩
          by_cases e : j = k
          · subst e; simpa using ht
          · exact unhide HN j (by omega)
        case measure => simp [intOf]; omega
    · obtain rfl : k = 16 := by omega
      go_wp2
      go_ret
      exact ⟨hex_miss n (unhide HN), rfl⟩

theorem bytesWorld_below (w : World) (s : ByteArray) : Below w.heap.size w (Lib.bytesWorld w 5 s) := by
  refine ⟨?_, ?_, ?_, by rw [Lib.bytesWorld_size]; omega, fun k hk => Lib.bytesWorld_at_old w 5 s k hk⟩
  all_goals
    unfold Lib.bytesWorld World.freeze
    split <;> rfl

theorem sb_at (s : ByteArray) (j : Nat) : ((s.data.toList.getD j 0).toNat : Int) = (sb s).getD j 0 := by
  unfold sb
  simp only [List.getD, List.getElem?_map]
  cases s.data.toList[j]? <;> rfl

set_option maxHeartbeats 2000000 in
theorem isUUID_any (s : ByteArray) (w : World) :
    Calls Try.prog 19 #[.string s] w fun e w' => e = .returned (.bool (uuidL (sb s))) ∧ Below w.heap.size w w' := by
  have hcv := fun (w : World) (s : ByteArray) => Lib.run_convert_string_bytes (P := Try.prog) w 9 25 5 s Try.underlying9 Try.underlying25 Try.underlying5
  by_cases h36 : s.size = 36
  · have hcell : ∀ j, j < 36 → ∃ n, n = (sb s).getD j 0 ∧ (Lib.bytesWorld w 5 s).cell? ⟨w.heap.size, j, none⟩ = some (.int .u8 n) := fun j hj =>
      ⟨_, rfl, by rw [Lib.bytesWorld_cell w 5 s j (by omega), sb_at]⟩
    have HC := hide hcell
    clear hcell
    have hlen : (sb s).length = 36 := by rw [sb_length, h36]
    have HL := hide hlen
    clear hlen
    go_enter Try.func19, Try.ntmps19
    go_wp2
    go_loop [11] (fun i => ∃ k : Nat, k ≤ 36 ∧ i = .int .i64 k ∧ ∀ j, j < k → okAt j ((sb s).getD j 0) = true) (fun i => 36 - (intOf i).toNat)
    case atStart => exact ⟨0, Nat.zero_le _, rfl, fun j hj => absurd hj (Nat.not_lt_zero _)⟩
    case round =>
      obtain ⟨k, hk, rfl, hne⟩ := hrel
      have HN := hide hne
      clear hne
      by_cases hlt : k < 36
      · obtain ⟨n, hn, hc⟩ := unhide HC k hlt
        have HB := hide hn
        clear hn
        have fin : ∀ j, okAt k n = true → j < k + 1 → okAt j ((sb s).getD j 0) = true := fun j ho hj => by
          by_cases e : j = k
          · subst e; rw [← unhide HB]; exact ho
          · exact unhide HN j (by omega)
        have bad : okAt k n = false → uuidL (sb s) = false := fun ho => uuid_bad _ k hlt (by rw [← unhide HB]; exact ho)
        have F := hide fin
        have Bd := hide bad
        clear fin bad
        by_cases hd : k = 8 ∨ k = 13 ∨ k = 18 ∨ k = 23
        · have hok : okAt k n = (n == 45) := by
            unfold okAt
            rw [if_pos (by rcases hd with rfl | rfl | rfl | rfl <;> rfl)]
          have HO := hide hok
          clear hok
          cases h45 : n == 45
          · have h45' : (n != 45) = true := by simpa using h45
            have hb := hide (unhide Bd (by rw [unhide HO, h45]))
            rcases hd with rfl | rfl | rfl | rfl
            all_goals
              go_wp2
              go_ret
              exact ⟨by rw [unhide hb]; rfl, bytesWorld_below w s⟩
          · have h45' : (n != 45) = false := by simpa using h45
            have hf := hide (fun j => unhide F j (by rw [unhide HO, h45]))
            rcases hd with rfl | rfl | rfl | rfl
            all_goals
              go_wp2
              go_round
              case rel => first | exact ⟨9, by omega, rfl, unhide hf⟩ | exact ⟨14, by omega, rfl, unhide hf⟩ | exact ⟨19, by omega, rfl, unhide hf⟩ | exact ⟨24, by omega, rfl, unhide hf⟩
              case measure => simp [intOf]
        · have hok : okAt k n = isHexN n := by
            unfold okAt
            rw [if_neg]
            intro e
            apply hd
            simpa [dashAt, or_assoc] using e
          have HO := hide hok
          clear hok
          have d8 : ((k : Int) == 8) = false := by simp; omega
          have d13 : ((k : Int) == 13) = false := by simp; omega
          have d18 : ((k : Int) == 18) = false := by simp; omega
          have d23 : ((k : Int) == 23) = false := by simp; omega
          clear hd
          have good : isHexN n = true → okAt k n = true := fun h => by rw [unhide HO, h]
          have worse : isHexN n = false → uuidL (sb s) = false := fun h => unhide Bd (by rw [unhide HO, h])
          by_cases h1 : 48 ≤ n
          · by_cases h2 : n ≤ 57
            · have hx := hide (unhide F · (good (by unfold isHexN; rw [Bool.or_eq_true]; left; simp; omega)))
              clear good worse
              go_wp2
              go_round
              case rel => exact ⟨k + 1, by omega, by go_num, unhide hx⟩
              case measure => simp [intOf]; omega
            · by_cases h3 : 97 ≤ n
              · by_cases h4 : n ≤ 102
                · have hx := hide (unhide F · (good (by unfold isHexN; rw [Bool.or_eq_true]; right; simp; omega)))
                  clear good worse
                  go_wp2
                  go_round
                  case rel => exact ⟨k + 1, by omega, by go_num, unhide hx⟩
                  case measure => simp [intOf]; omega
                · have hx := hide (worse (by unfold isHexN; simp; omega))
                  clear good worse
                  go_wp2
                  go_ret
                  exact ⟨by rw [unhide hx]; rfl, bytesWorld_below w s⟩
              · have hx := hide (worse (by unfold isHexN; simp; omega))
                clear good worse
                go_wp2
                go_ret
                exact ⟨by rw [unhide hx]; rfl, bytesWorld_below w s⟩
          · have h3 : ¬ 97 ≤ n := by omega
            have hx := hide (worse (by unfold isHexN; simp; omega))
            clear good worse
            go_wp2
            go_ret
            exact ⟨by rw [unhide hx]; rfl, bytesWorld_below w s⟩
      · obtain rfl : k = 36 := by omega
        have hg := hide (uuid_of (sb s) (unhide HL) (unhide HN))
        go_wp2
        go_ret
        exact ⟨by rw [unhide hg]; rfl, bytesWorld_below w s⟩
  · have hb := uuid_len (sb s) (by rw [sb_length]; exact h36)
    rw [hb]
    have hn : ((s.size : Int) != 36) = true := by simp; omega
    go_enter Try.func19, Try.ntmps19
    go_wp2
    go_ret
    exact ⟨rfl, Below.refl _ _⟩

end Go.Proofs.Qxb6609019a
