/-
  The walk of 'FnIsUUIDAcceptsCanonicalTextAndExactlyItsGoodOneByteEdits'.
-/
import Derived.Test.Qxb6609019aFormat
namespace Go.Proofs.Qxb6609019a
open Go.ChangeShapes Go.WideShapes Go.ChangeAt Go.RowKit

theorem zzuuid_any (s : ByteArray) (w : World) :
    Calls Try.prog 8 #[.string s] w fun e w' => e = .returned (.bool (uuidL (sb s))) ∧ Below w.heap.size w w' := by
  go_enter Try.func8, Try.ntmps8
  go_wp2_with fail
  refine (isUUID_any s _).mono ?_
  rintro e w' ⟨rfl, hb⟩
  go_wp2
  go_ret
  exact ⟨rfl, hb⟩

theorem below_trans {a b c : World} (h : Below a.heap.size a b) (k : Below b.heap.size b c) : Below a.heap.size a c := h.trans (k.mono h.size)

theorem bytes_free (w : World) (u : ByteArray) (m : Nat) (h : m < u.size) : (Lib.bytesWorld w 5 u).frozen? ⟨w.heap.size, m, none⟩ = false := by
  unfold World.frozen?
  rw [Lib.bytesWorld_at_new]
  have : u.size ≤ (Lib.bytesCells w 5 u).size := by simp [Lib.bytesCells]
  simp
  omega

/-- The row behind the store, as bytes. -/
theorem set_cells (w : World) (u : ByteArray) (m : Nat) (h : m < u.size) (c : Int) :
    ∀ i, i < u.size → ((Lib.bytesWorld w 5 u).setCell ⟨w.heap.size, m, none⟩ (.int .u8 c)).cell? ⟨w.heap.size, 0 + i, none⟩ = some (.int .u8 (((sb u).set m c).getD i 0)) := by
  intro i hi
  rw [Nat.zero_add]
  have hcm := Lib.bytesWorld_cell w 5 u m h
  by_cases e : i = m
  · subst e
    have : ((sb u).set i c).getD i 0 = c := by simp [List.getD, sb_length, h]
    rw [this]
    exact World.cell?_setCell_same _ _ _ hcm
  · have : ((sb u).set m c).getD i 0 = (sb u).getD i 0 := by
      simp only [List.getD]
      rw [List.getElem?_set_ne (by omega)]
    rw [this, ← sb_at, ← Lib.bytesWorld_cell w 5 u i hi]
    exact World.cell?_setCell_other _ _ _ _ (by intro h; injection h with h1 h2 h3; exact e h2.symm)

theorem sb_byte (u : ByteArray) : ∀ y ∈ sb u, 0 ≤ y ∧ y ≤ 255 := by
  intro y hy
  unfold sb at hy
  rw [List.mem_map] at hy
  obtain ⟨b, _, rfl⟩ := hy
  have := b.toNat_lt
  omega

theorem sb_get (u : ByteArray) (m : Nat) (h : m < u.size) : ((u[m]'h).toNat : Int) = (sb u).getD m 0 := by
  rw [← sb_at]
  have : u.data.toList.getD m 0 = u[m]'h := by
    simp only [List.getD]
    rw [List.getElem?_eq_getElem (by simpa using h)]
    rfl
  rw [this]

theorem edit_law (u : ByteArray) (hu : uuidL (sb u) = true) (m : Nat) (hm : m < 36) (c : Int) (h0 : 0 ≤ c) (h1 : c ≤ 255) :
    uuidL (sb (strOfNums ((sb u).set m c))) = (if (sb u).getD m 0 = 45 then c == 45 else isHexN c) := by
  rw [sb_nums]
  · exact uuid_set (sb u) hu m hm c
  · intro y hy
    rcases List.mem_or_eq_of_mem_set hy with h | rfl
    · exact sb_byte u y h
    · exact ⟨h0, h1⟩

set_option maxRecDepth 100000 in
set_option maxHeartbeats 4000000 in
theorem walk4 (x0 x1 x2 x3 x4 x5 x6 x7 x8 x9 x10 x11 x12 x13 x14 x15 : Int) (hx : ∀ x ∈ [x0, x1, x2, x3, x4, x5, x6, x7, x8, x9, x10, x11, x12, x13, x14, x15], 0 ≤ x ∧ x ≤ 255) (i c : Int) (hc0 : 0 ≤ c) (hc1 : c ≤ 255) (w : World) :
    Calls Try.prog 4 #[.agg #[.int .u8 x0, .int .u8 x1, .int .u8 x2, .int .u8 x3, .int .u8 x4, .int .u8 x5, .int .u8 x6, .int .u8 x7, .int .u8 x8, .int .u8 x9, .int .u8 x10, .int .u8 x11, .int .u8 x12, .int .u8 x13, .int .u8 x14, .int .u8 x15], .int .i64 i, .int .u8 c] w fun e w' => e = .returned (.bool true) ∧ Below w.heap.size w w' := by
  have HX := hide hx
  clear hx
  have hcv := fun (w : World) (s : ByteArray) => Lib.run_convert_string_bytes (P := Try.prog) w 9 25 5 s Try.underlying9 Try.underlying25 Try.underlying5
  go_enter Try.func4, Try.ntmps4
  go_wp2_with fail
  refine (format_any x0 x1 x2 x3 x4 x5 x6 x7 x8 x9 x10 x11 x12 x13 x14 x15 (unhide HX) _).mono ?_
  rintro e w1 ⟨⟨u, rfl, hu⟩, b1⟩
  have bX : Below w.heap.size w w1 := below_trans ((Below.refl _ _).alloc (Nat.le_refl _) _) b1
  clear b1
  have HU := hide hu
  clear hu
  have h36 : u.size = 36 := by rw [← sb_length]; exact ((uuid_iff _).1 (unhide HU)).1
  go_wp2_with fail
  refine (zzuuid_any u _).mono ?_
  rintro e w2 ⟨rfl, b2⟩
  rw [unhide HU]
  replace bX := below_trans bX b2
  clear b2
  by_cases hi0 : 0 ≤ i
  · by_cases hi1 : i < 36
    · obtain ⟨m, rfl⟩ := Int.eq_ofNat_of_zero_le hi0
      have hm : m < u.size := by omega
      have hcell := Lib.bytesWorld_cell w2 5 u m hm
      have hfree := bytes_free w2 u m hm
      have hback := run_convert_bytes_arg (P := Try.prog) ((Lib.bytesWorld w2 5 u).setCell ⟨w2.heap.size, m, none⟩ (.int .u8 c)) 25 5 Try.underlying25 Try.underlying5 w2.heap.size 0 36 (grownCap w2 36 0 5) ((sb u).set m c) (by rw [List.length_set, sb_length, h36]) (by have := set_cells w2 u m hm c; rwa [h36] at this) 9 Try.underlying9
      go_wp2_with fail
      refine (hex_any c _).mono ?_
      rintro e w3 ⟨⟨r, rfl, hr⟩, hw3⟩
      subst hw3
      have HE := hide (edit_law u (unhide HU) m (by omega) c hc0 hc1)
      have HG := hide (sb_get u m hm)
      have b3 : Below w2.heap.size w2 ((Lib.bytesWorld w2 5 u).setCell ⟨w2.heap.size, m, none⟩ (.int .u8 c)) := (bytesWorld_below w2 u).setCell (Nat.le_refl _) _
      replace bX := below_trans bX b3
      clear b3
      by_cases hd : (sb u).getD m 0 = 45
      · have ht : (((u[m]'hm).toNat : Int) == 45) = true := by rw [unhide HG, hd]; rfl
        have HE2 := unhide HE
        rw [if_pos hd] at HE2
        have HE3 := hide HE2
        clear HE HE2 HG hd
        go_wp2_with fail
        refine (zzuuid_any _ _).mono ?_
        rintro e w4 ⟨rfl, b4⟩
        replace bX := below_trans bX b4
        clear b4
        rw [unhide HE3]
        go_wp2
        go_ret
        exact ⟨by simp, bX⟩
      · have ht : (((u[m]'hm).toNat : Int) == 45) = false := by rw [unhide HG]; simpa using hd
        have HE2 := unhide HE
        rw [if_neg hd, ← hr] at HE2
        have HE3 := hide HE2
        clear HE HE2 HG hd hr
        go_wp2_with fail
        refine (zzuuid_any _ _).mono ?_
        rintro e w4 ⟨rfl, b4⟩
        replace bX := below_trans bX b4
        clear b4
        rw [unhide HE3]
        go_wp2
        go_ret
        exact ⟨by simp, bX⟩
    · go_wp2
      go_ret
      exact ⟨rfl, bX⟩
  · go_wp2
    go_ret
    exact ⟨rfl, bX⟩
end Go.Proofs.Qxb6609019a
