/-
  The walk of 'zzFormatUUID': it returns the text of a UUID.
-/
import Derived.Test.Qxb6609019aHex
import Derived.WalkSpells
import Derived.Laws.BytesArg
import Derived.WalkLawsBesides
namespace Go.Proofs.Qxb6609019a
open Go.ChangeShapes Go.WideShapes Go.ChangeAt Go.RowKit

theorem info5 : (Try.prog.info? 5).map (fun i => (i.zero, i.size, i.bytes)) = some (some (.int .u8 0), 1, 1) := by kernel_rfl

/-- How many bytes the text has ahead of byte k's digits. -/
def plen (k : Nat) : Nat := 2 * k + (if 4 < k then 1 else 0) + (if 6 < k then 1 else 0) + (if 8 < k then 1 else 0) + (if 10 < k then 1 else 0)

theorem plen_le : ∀ k, k < 16 → plen k + 2 ≤ 36 := by decide

theorem cell_alloc {w : World} {a : Addr} {v : Value} (o : Obj) (h : w.cell? a = some v) : (w.alloc o).cell? a = some v := by
  have hb : a.block < w.heap.size := by
    apply Decidable.byContradiction
    intro hn
    have hge : w.heap.size ≤ a.block := Nat.le_of_not_lt hn
    have : w.heap[a.block]? = none := Array.getElem?_eq_none hge
    simp [World.cell?, this] at h
  rw [((Below.refl w.heap.size w).alloc (Nat.le_refl _) o).cell hb, h]

/-- The first p bytes of a good text. -/
structure Good (xs : List Int) (p : Nat) : Prop where
  len : xs.length = p
  ok : ∀ j, j < p → okAt j (xs.getD j 0) = true
  byte : ∀ y ∈ xs, 0 ≤ y ∧ y ≤ 255
theorem good_nil : Good [] 0 := ⟨rfl, fun j hj => absurd hj (Nat.not_lt_zero _), fun y hy => by cases hy⟩

theorem Good.snoc {xs : List Int} {p : Nat} (h : Good xs p) {y : Int} (hy : okAt p y = true) (hb : 0 ≤ y ∧ y ≤ 255) : Good (xs ++ [y]) (p + 1) := by
  refine ⟨by simp [h.len], fun j hj => ?_, fun z hz => ?_⟩
  · by_cases e : j = p
    · subst e
      have : (xs ++ [y]).getD j 0 = y := by simp [List.getD, ← h.len]
      rw [this]; exact hy
    · have hj' : j < xs.length := by rw [h.len]; omega
      have : (xs ++ [y]).getD j 0 = xs.getD j 0 := by simp only [List.getD]; rw [List.getElem?_append_left hj']
      rw [this]; exact h.ok j (by omega)
  · simp only [List.mem_append, List.mem_singleton] at hz
    rcases hz with hz | rfl
    · exact h.byte z hz
    · exact hb

theorem hex_byte {y : Int} (h : isHexN y = true) : 0 ≤ y ∧ y ≤ 255 := by
  unfold isHexN at h
  rw [Bool.or_eq_true] at h
  rcases h with h | h
  · have := of_decide_eq_true h; omega
  · have := of_decide_eq_true h; omega

theorem ok_hex {p : Nat} {y : Int} (hd : dashAt p = false) (h : isHexN y = true) : okAt p y = true := by
  unfold okAt; rw [hd]; simpa using h
theorem ok_dash {p : Nat} (hd : dashAt p = true) : okAt p 45 = true := by
  unfold okAt; rw [if_pos hd]; rfl

theorem plen_plain : ∀ k, k < 16 → ¬ (k = 4 ∨ k = 6 ∨ k = 8 ∨ k = 10) → dashAt (plen k) = false ∧ dashAt (plen k + 1) = false ∧ plen (k + 1) = plen k + 2 := by decide
theorem plen_dash : ∀ k, k < 16 → (k = 4 ∨ k = 6 ∨ k = 8 ∨ k = 10) → dashAt (plen k) = true ∧ dashAt (plen k + 1) = false ∧ dashAt (plen k + 2) = false ∧ plen (k + 1) = plen k + 3 ∧ plen k + 3 ≤ 36 := by decide

theorem owns_cell {w : World} {base g n cap : Nat} {xs : List Int} (h : w.ownsRow base 5 1 (.slice (some ⟨g, 0, none⟩) n cap) n (xs.map (Value.int .u8))) :
    xs.length = n ∧ ∀ i, i < n → w.cell? ⟨g, 0 + i, none⟩ = some (.int .u8 (xs.getD i 0)) := by
  obtain ⟨hl, h | ⟨g', cap', cur, hv, _, hh, hnc, _, hsz, htk⟩⟩ := h
  · cases h.1
  · cases hv
    have hn : xs.length = n := by simpa using hl
    refine ⟨hn, fun i hi => ?_⟩
    have e : cur.toList[i]? = (xs.map (Value.int .u8))[i]? := by rw [← htk, List.getElem?_take, if_pos (by omega)]
    have e2 : cur[i]? = some (.int .u8 (xs.getD i 0)) := by
      rw [← Array.getElem?_toList, e]
      simp [List.getD, hn, hi]
    simp only [World.cell?, hh]
    simp [e2]

theorem sb_nums (xs : List Int) (h : ∀ y ∈ xs, 0 ≤ y ∧ y ≤ 255) : sb (strOfNums xs) = xs := by
  unfold sb
  rw [strOfNums_data, List.map_map]
  conv => rhs; rw [← List.map_id xs]
  apply List.map_congr_left
  intro y hy
  obtain ⟨h0, h1⟩ := h y hy
  obtain ⟨n, rfl⟩ := Int.eq_ofNat_of_zero_le h0
  simp
  omega

theorem below_old {w : World} {o : Obj} {w' : World} (h : Below (w.heap.size + 1) (w.alloc o) w') : Below w.heap.size w w' :=
  ((Below.refl _ _).alloc (Nat.le_refl _) o).trans (h.mono (by omega))

/-- It returns the text of a UUID. -/
def Text (e : Ending) : Prop := ∃ u, e = .returned (.string u) ∧ uuidL (sb u) = true

theorem text_of (xs : List Int) (h : Good xs 36) : Text (.returned (.string (strOfNums xs))) :=
  ⟨_, rfl, by rw [sb_nums xs h.byte]; exact uuid_of xs h.len h.ok⟩

set_option maxRecDepth 100000 in
set_option maxHeartbeats 4000000 in
theorem format_any (x0 x1 x2 x3 x4 x5 x6 x7 x8 x9 x10 x11 x12 x13 x14 x15 : Int) (hx : ∀ x ∈ [x0, x1, x2, x3, x4, x5, x6, x7, x8, x9, x10, x11, x12, x13, x14, x15], 0 ≤ x ∧ x ≤ 255) (w : World) :
    Calls Try.prog 10 #[.agg #[.int .u8 x0, .int .u8 x1, .int .u8 x2, .int .u8 x3, .int .u8 x4, .int .u8 x5, .int .u8 x6, .int .u8 x7, .int .u8 x8, .int .u8 x9, .int .u8 x10, .int .u8 x11, .int .u8 x12, .int .u8 x13, .int .u8 x14, .int .u8 x15]] w fun e w' => Text e ∧ Below w.heap.size w w' := by
  obtain ⟨i0, hi, hz0, hz1, hz2⟩ := info_parts info5
  have Hi := hide hi
  have Hz0 := hide hz0
  have Hz1 := hide hz1
  have Hz2 := hide hz2
  clear hi hz0 hz1 hz2
  have hcell : ∀ k, k < 16 → ∃ x, (w.alloc (.cells #[.int .u8 x0, .int .u8 x1, .int .u8 x2, .int .u8 x3, .int .u8 x4, .int .u8 x5, .int .u8 x6, .int .u8 x7, .int .u8 x8, .int .u8 x9, .int .u8 x10, .int .u8 x11, .int .u8 x12, .int .u8 x13, .int .u8 x14, .int .u8 x15] 23)).cell? ⟨w.heap.size, k, none⟩ = some (.int .u8 x) ∧ 0 ≤ x ∧ x ≤ 255 := by
    intro k hk
    have e : k = 0 ∨ k = 1 ∨ k = 2 ∨ k = 3 ∨ k = 4 ∨ k = 5 ∨ k = 6 ∨ k = 7 ∨ k = 8 ∨ k = 9 ∨ k = 10 ∨ k = 11 ∨ k = 12 ∨ k = 13 ∨ k = 14 ∨ k = 15 := by omega
    rcases e with rfl | rfl | rfl | rfl | rfl | rfl | rfl | rfl | rfl | rfl | rfl | rfl | rfl | rfl | rfl | rfl
    · exact ⟨x0, by simp, hx x0 (by simp)⟩
    · exact ⟨x1, by simp, hx x1 (by simp)⟩
    · exact ⟨x2, by simp, hx x2 (by simp)⟩
    · exact ⟨x3, by simp, hx x3 (by simp)⟩
    · exact ⟨x4, by simp, hx x4 (by simp)⟩
    · exact ⟨x5, by simp, hx x5 (by simp)⟩
    · exact ⟨x6, by simp, hx x6 (by simp)⟩
    · exact ⟨x7, by simp, hx x7 (by simp)⟩
    · exact ⟨x8, by simp, hx x8 (by simp)⟩
    · exact ⟨x9, by simp, hx x9 (by simp)⟩
    · exact ⟨x10, by simp, hx x10 (by simp)⟩
    · exact ⟨x11, by simp, hx x11 (by simp)⟩
    · exact ⟨x12, by simp, hx x12 (by simp)⟩
    · exact ⟨x13, by simp, hx x13 (by simp)⟩
    · exact ⟨x14, by simp, hx x14 (by simp)⟩
    · exact ⟨x15, by simp, hx x15 (by simp)⟩
  have HC := hide hcell
  clear hcell
  go_enter Try.func10, Try.ntmps10
  go_wp2_with (at_make; refine wpList_make_own _ rfl (.const (.int .i64 0)) (.const (.int .i64 36)) 25 rfl (w.heap.size + 1) 5 i0 (.int .u8 0) 1 Try.underlying25 (unhide Hi) (unhide Hz0) (unhide Hz1) _ _ _ 36 rfl rfl (by omega) (by rw [unhide Hz2]; omega) (by unfold maxLen; omega) (by simp) ?_; intro w2 hown2 hgrow2)
  have hB2 : Below (w.heap.size + 1) (w.alloc (.cells #[.int .u8 x0, .int .u8 x1, .int .u8 x2, .int .u8 x3, .int .u8 x4, .int .u8 x5, .int .u8 x6, .int .u8 x7, .int .u8 x8, .int .u8 x9, .int .u8 x10, .int .u8 x11, .int .u8 x12, .int .u8 x13, .int .u8 x14, .int .u8 x15] 23)) w2 := (Below.refl _ _).grown hgrow2 (by simp) (fun k h => by cases h)
  clear hgrow2
  have hown2' : w2.ownsRow (w.heap.size + 1) 5 1 (.slice (some ⟨w.heap.size + 1, 0, none⟩) 0 36) 0 [] := by simpa using hown2
  clear hown2
  go_loopw [3, 4] (fun v kv wr => ∃ (k p : Nat) (xs : List Int), k ≤ 16 ∧ kv = .int .i64 k ∧ p = plen k ∧ v = .slice (some ⟨w.heap.size + 1, 0, none⟩) p 36 ∧ wr.ownsRow (w.heap.size + 1) 5 1 (.slice (some ⟨w.heap.size + 1, 0, none⟩) p 36) p (xs.map (Value.int .u8)) ∧
      Good xs p ∧ Below (w.heap.size + 1) (w.alloc (.cells #[.int .u8 x0, .int .u8 x1, .int .u8 x2, .int .u8 x3, .int .u8 x4, .int .u8 x5, .int .u8 x6, .int .u8 x7, .int .u8 x8, .int .u8 x9, .int .u8 x10, .int .u8 x11, .int .u8 x12, .int .u8 x13, .int .u8 x14, .int .u8 x15] 23)) wr) (fun _ kv _ => 16 - (intOf kv).toNat)
  case atStart => exact ⟨0, 0, [], Nat.zero_le _, rfl, rfl, rfl, hown2', good_nil, hB2⟩
  case round =>
    obtain ⟨k, p, xs, hk, rfl, hp, rfl, hown, hgood, hB⟩ := hrel
    have HP := hide hp
    clear hp hown2' hB2
    by_cases hlt : k < 16
    · obtain ⟨x, hcx, hx0, hx1⟩ := unhide HC k hlt
      have hcw : wr.cell? ⟨w.heap.size, k, none⟩ = some (.int .u8 x) := by rw [hB.cell (by simp)]; exact hcx
      clear hcx
      have hq : (x / 16).toNat < (ByteArray.mk #[48, 49, 50, 51, 52, 53, 54, 55, 56, 57, 97, 98, 99, 100, 101, 102]).size := by show _ < 16; omega
      have hr : (x % 16).toNat < (ByteArray.mk #[48, 49, 50, 51, 52, 53, 54, 55, 56, 57, 97, 98, 99, 100, 101, 102]).size := by show _ < 16; omega
      obtain ⟨y1, hd1, hh1⟩ : ∃ y, (((ByteArray.mk #[48, 49, 50, 51, 52, 53, 54, 55, 56, 57, 97, 98, 99, 100, 101, 102])[(x / 16).toNat]'hq).toNat : Int) = y ∧ isHexN y = true := ⟨_, rfl, by rw [dig_at _ hq]; exact dig_hex _ hq⟩
      obtain ⟨y2, hd2, hh2⟩ : ∃ y, (((ByteArray.mk #[48, 49, 50, 51, 52, 53, 54, 55, 56, 57, 97, 98, 99, 100, 101, 102])[(x % 16).toNat]'hr).toNat : Int) = y ∧ isHexN y = true := ⟨_, rfl, by rw [dig_at _ hr]; exact dig_hex _ hr⟩
      by_cases hd : k = 4 ∨ k = 6 ∨ k = 8 ∨ k = 10
      · have hpd := plen_dash k hlt hd
        rw [← unhide HP] at hpd
        have hpl : p + 3 ≤ 36 := hpd.2.2.2.2
        have HPD := hide hpd
        clear hpd
        have goal : ∀ w4 : World, w4.ownsRow (w.heap.size + 1) 5 1 (.slice (some ⟨w.heap.size + 1, 0, none⟩) (p + 1 + 1 + 1) 36) (p + 1 + 1 + 1) (xs.map (Value.int .u8) ++ [.int .u8 45] ++ [.int .u8 y1] ++ [.int .u8 y2]) →
            Below (w.heap.size + 1) (w.alloc (.cells #[.int .u8 x0, .int .u8 x1, .int .u8 x2, .int .u8 x3, .int .u8 x4, .int .u8 x5, .int .u8 x6, .int .u8 x7, .int .u8 x8, .int .u8 x9, .int .u8 x10, .int .u8 x11, .int .u8 x12, .int .u8 x13, .int .u8 x14, .int .u8 x15] 23)) w4 → ∃ (k' p' : Nat) (xs' : List Int), k' = k + 1 ∧ k' ≤ 16 ∧ p' = plen k' ∧ p' = p + 3 ∧ w4.ownsRow (w.heap.size + 1) 5 1 (.slice (some ⟨w.heap.size + 1, 0, none⟩) p' 36) p' (xs'.map (Value.int .u8)) ∧ Good xs' p' ∧ Below (w.heap.size + 1) (w.alloc (.cells #[.int .u8 x0, .int .u8 x1, .int .u8 x2, .int .u8 x3, .int .u8 x4, .int .u8 x5, .int .u8 x6, .int .u8 x7, .int .u8 x8, .int .u8 x9, .int .u8 x10, .int .u8 x11, .int .u8 x12, .int .u8 x13, .int .u8 x14, .int .u8 x15] 23)) w4 := fun w4 ho hb =>
          ⟨k + 1, p + 3, xs ++ [45] ++ [y1] ++ [y2], rfl, by omega, (unhide HPD).2.2.2.1.symm, rfl, by simpa using ho, ((hgood.snoc (ok_dash (unhide HPD).1) (by omega)).snoc (ok_hex (unhide HPD).2.1 hh1) (hex_byte hh1)).snoc (ok_hex (unhide HPD).2.2.1 hh2) (hex_byte hh2), hb⟩
        have HG := hide goal
        clear goal
        rcases hd with rfl | rfl | rfl | rfl
        all_goals
          go_wp2_with (first
            | (at_builtin; refine wpList_append_fits _ rfl (.tmp 24) (.tmp 25) 25 rfl (w.heap.size + 1) 5 i0 1 Try.underlying25 (unhide Hi) (unhide Hz1) (w.heap.size + 1) (p) 36 _ rfl (hown.alloc _) ⟨wr.heap.size, 0, none⟩ 1 1 [.int .u8 45] rfl rfl (by intro t u ht; match t, ht with | 0, ht => simp at ht; subst ht; simp [Addr.add]) (by intro u hu; simp at hu; subst hu; rfl) (by omega) ?_; intro w5 hown5 hgrow5; have hcw5 := hgrow5.cell (cell_alloc _ hcw) (by simp))
            | (at_builtin; refine wpList_append_fits _ rfl (.tmp 27) (.tmp 33) 25 rfl (w.heap.size + 1) 5 i0 1 Try.underlying25 (unhide Hi) (unhide Hz1) (w.heap.size + 1) (p + 1) 36 _ rfl (hown5.alloc _) ⟨w5.heap.size, 0, none⟩ 1 1 [.int .u8 y1] rfl rfl (by intro t u ht; match t, ht with | 0, ht => simp at ht; subst ht; simp [Addr.add]) (by intro u hu; simp at hu; subst hu; rfl) (by omega) ?_; intro w3 hown3 hgrow3; have hcw3 := hgrow3.cell (cell_alloc _ hcw5) (by simp))
            | (at_builtin; refine wpList_append_fits _ rfl (.tmp 35) (.tmp 41) 25 rfl (w.heap.size + 1) 5 i0 1 Try.underlying25 (unhide Hi) (unhide Hz1) (w.heap.size + 1) (p + 1 + 1) 36 _ rfl (hown3.alloc _) ⟨w3.heap.size, 0, none⟩ 1 1 [.int .u8 y2] rfl rfl (by intro t u ht; match t, ht with | 0, ht => simp at ht; subst ht; simp [Addr.add]) (by intro u hu; simp at hu; subst hu; rfl) (by omega) ?_; intro w4 hown4 hgrow4))
          have hB4 : Below (w.heap.size + 1) (w.alloc (.cells #[.int .u8 x0, .int .u8 x1, .int .u8 x2, .int .u8 x3, .int .u8 x4, .int .u8 x5, .int .u8 x6, .int .u8 x7, .int .u8 x8, .int .u8 x9, .int .u8 x10, .int .u8 x11, .int .u8 x12, .int .u8 x13, .int .u8 x14, .int .u8 x15] 23)) w4 := by
            have z0 := hB.size
            have z1 := hgrow5.size
            have z2 := hgrow3.size
            simp at z0 z1 z2
            exact (((((hB.alloc (by omega) _).grown hgrow5 (by simp; omega) (fun k hk => by cases hk; exact Nat.le_refl _)).alloc (by omega) _).grown hgrow3 (by simp; omega) (fun k hk => by cases hk; exact Nat.le_refl _)).alloc (by omega) _).grown hgrow4 (by simp; omega) (fun k hk => by cases hk; exact Nat.le_refl _)
          go_roundw
          case rel =>
            obtain ⟨k', p', xs', rfl, hk', hp', rfl, ho, hg, hb⟩ := unhide HG w4 hown4 hB4
            exact ⟨_, p + 3, xs', hk', rfl, hp', rfl, ho, hg, hb⟩
          case measure => simp [intOf]
      · have d4 : ((k : Int) == 4) = false := by simp; omega
        have d6 : ((k : Int) == 6) = false := by simp; omega
        have d8 : ((k : Int) == 8) = false := by simp; omega
        have d10 : ((k : Int) == 10) = false := by simp; omega
        have HD := hide hd
        clear hd
        have hpl : p + 2 ≤ 36 := by have := unhide HP; have := plen_le k hlt; omega
        go_wp2_with (first
          | (at_builtin; refine wpList_append_fits _ rfl (.tmp 27) (.tmp 33) 25 rfl (w.heap.size + 1) 5 i0 1 Try.underlying25 (unhide Hi) (unhide Hz1) (w.heap.size + 1) p 36 _ rfl (hown.alloc _) ⟨wr.heap.size, 0, none⟩ 1 1 [.int .u8 y1] rfl rfl (by intro t u ht; match t, ht with | 0, ht => simp at ht; subst ht; simp [Addr.add]) (by intro u hu; simp at hu; subst hu; rfl) (by omega) ?_; intro w3 hown3 hgrow3; have hcw3 := hgrow3.cell (cell_alloc _ hcw) (by simp))
          | (at_builtin; refine wpList_append_fits _ rfl (.tmp 35) (.tmp 41) 25 rfl (w.heap.size + 1) 5 i0 1 Try.underlying25 (unhide Hi) (unhide Hz1) (w.heap.size + 1) (p + 1) 36 _ rfl (hown3.alloc _) ⟨w3.heap.size, 0, none⟩ 1 1 [.int .u8 y2] rfl rfl (by intro t u ht; match t, ht with | 0, ht => simp at ht; subst ht; simp [Addr.add]) (by intro u hu; simp at hu; subst hu; rfl) (by omega) ?_; intro w4 hown4 hgrow4))
        have hB4 : Below (w.heap.size + 1) (w.alloc (.cells #[.int .u8 x0, .int .u8 x1, .int .u8 x2, .int .u8 x3, .int .u8 x4, .int .u8 x5, .int .u8 x6, .int .u8 x7, .int .u8 x8, .int .u8 x9, .int .u8 x10, .int .u8 x11, .int .u8 x12, .int .u8 x13, .int .u8 x14, .int .u8 x15] 23)) w4 := ((((hB.alloc (Nat.le_trans (by simp) hB.size) _).grown hgrow3 (by have := hB.size; simp at this ⊢; omega) (fun k hk => by cases hk; exact Nat.le_refl _)).alloc (by have := hB.size; have := hgrow3.size; simp at *; omega) _).grown hgrow4 (by have := hB.size; have := hgrow3.size; simp at *; omega) (fun k hk => by cases hk; exact Nat.le_refl _))
        have hpp := plen_plain k hlt (unhide HD)
        rw [← unhide HP] at hpp
        go_roundw
        case rel =>
          refine ⟨k + 1, p + 2, xs ++ [y1] ++ [y2], by omega, by go_num, hpp.2.2.symm, rfl, ?_, (hgood.snoc (ok_hex hpp.1 hh1) (hex_byte hh1)).snoc (ok_hex hpp.2.1 hh2) (hex_byte hh2), hB4⟩
          simpa using hown4
        case measure => simp [intOf]; omega
    · obtain rfl : k = 16 := by omega
      have hp36 : p = 36 := by rw [unhide HP]; rfl
      subst hp36
      obtain ⟨hlen, hcs⟩ := owns_cell hown
      have hcv := run_convert_bytes_arg (P := Try.prog) wr 25 5 Try.underlying25 Try.underlying5 (w.heap.size + 1) 0 36 36 xs hlen hcs 9 Try.underlying9
      clear hcs hlen
      go_wp2
      go_ret
      exact ⟨text_of xs hgood, below_old hB⟩
end Go.Proofs.Qxb6609019a
