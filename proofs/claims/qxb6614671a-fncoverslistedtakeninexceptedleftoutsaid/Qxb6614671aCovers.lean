/-
  A slice of strings as a walk meets it; slices.Index, slices.Contains (after the shelf's templates), Covers, ZZcoversB1: one contract a function.
-/
import Derived.Test.Qxb6614671aRows
import Derived.WalkKit
import Derived.ProofKit
import Derived.Lib.SlicesS
import Derived.Below
namespace Go.Proofs.Qxb6614671a
open Go.ChangeShapes Go.WideShapes Go.ChangeAt Go.RowKit

theorem hide {p : Prop} (h : p) : Hid p := h
theorem unhide {p : Prop} (h : Hid p) : p := h

/-- The slice value v reads as the strings ss. -/
def Strs (w : World) (v : Value) (ss : List ByteArray) : Prop :=
  (ss = [] ∧ ∃ a c, v = .slice a 0 c) ∨ ∃ b off c, v = .slice (some ⟨b, off, none⟩) ss.length c ∧ ∀ j, j < ss.length → w.cell? ⟨b, off + j, none⟩ = some (.string (ss.getD j ByteArray.empty))

/-- What was there is there. -/
def Keeps (w w' : World) : Prop := ∀ a v, w.cell? a = some v → w'.cell? a = some v

theorem Keeps.refl (w : World) : Keeps w w := fun _ _ h => h
theorem Keeps.trans {a b c : World} (h : Keeps a b) (k : Keeps b c) : Keeps a c := fun x v e => k x v (h x v e)
theorem keeps_of_below {w w' : World} (h : Below w.heap.size w w') : Keeps w w' := by
  intro a v e
  have hb : a.block < w.heap.size := by
    apply Decidable.byContradiction
    intro hn
    have hge : w.heap.size ≤ a.block := Nat.le_of_not_lt hn
    have : w.heap[a.block]? = none := Array.getElem?_eq_none hge
    simp [World.cell?, this] at e
  rw [h.cell hb, e]
theorem Strs.keeps {w w' : World} {v : Value} {ss : List ByteArray} (h : Strs w v ss) (k : Keeps w w') : Strs w' v ss := by
  rcases h with h | ⟨b, off, c, hv, hc⟩
  · exact .inl h
  · exact .inr ⟨b, off, c, hv, fun j hj => k _ _ (hc j hj)⟩
theorem Strs.nil (w : World) : Strs w (.slice none 0 0) [] := .inl ⟨rfl, _, _, rfl⟩

set_option maxHeartbeats 1000000 in
theorem index_row (b off n c : Nat) (zs : List ByteArray) (x : ByteArray) (w : World) (hz : n ≤ zs.length) (hbig : n ≤ 9223372036854775807) (hc : ∀ j, j < zs.length → w.cell? ⟨b, off + j, none⟩ = some (.string (zs.getD j ByteArray.empty))) :
    Calls Try.prog 16 #[.slice (some ⟨b, off, none⟩) n c, .string x] w fun e w' => e = .returned (.int .i64 (Lib.idxOfS (zs.take n) x)) ∧ w' = w := by
  go_enter Try.func16, Try.ntmps16
  go_wp2
  go_loop [5, 8] (fun _ i => ∃ k : Nat, k ≤ n ∧ i = .int .i64 k ∧ ∀ j, j < k → zs.getD j ByteArray.empty ≠ x) (fun _ i => n - (intOf i).toNat)
  case atStart => exact ⟨0, Nat.zero_le _, rfl, fun j hj => absurd hj (Nat.not_lt_zero _)⟩
  case round =>
    obtain ⟨k, hk, rfl, hne⟩ := hrel
    have hcell : k < n → w.cell? ⟨b, off + k, none⟩ = some (.string (zs.getD k ByteArray.empty)) := fun _ => hc k (by omega)
    clear hc
    go_wp2
    · have hlt : k < n := by assumption
      have heq : (x.toList == (zs[k]?.getD ByteArray.empty).toList) = true := by assumption
      go_ret
      refine ⟨?_, rfl⟩
      rw [Lib.idxOfS_hit zs n k x hlt hz (by simp only [List.getD]; exact ((Lib.bytes_beq_iff _ _).1 heq).symm) hne]
      rfl
    · have hlt : k < n := by assumption
      have hneq : (x.toList == (zs[k]?.getD ByteArray.empty).toList) = false := by assumption
      go_round
      case rel =>
        refine ⟨k + 1, by omega, by go_num, fun j hj => ?_⟩
        by_cases e : j = k
        · subst e
          intro he
          exact (Lib.bytes_beq_false_iff _ _).1 hneq (by simpa [List.getD] using he.symm)
        · exact hne j (by omega)
      case measure => simp [intOf]; omega
    · have hge : ¬ k < n := by assumption
      have : k = n := by omega
      subst this
      go_ret
      refine ⟨?_, rfl⟩
      rw [Lib.idxOfS_miss zs k x hne]
      rfl

theorem index_empty (a : Option Addr) (c : Nat) (x : ByteArray) (w : World) :
    Calls Try.prog 16 #[.slice a 0 c, .string x] w fun e w' => e = .returned (.int .i64 (-1)) ∧ w' = w := by
  go_enter Try.func16, Try.ntmps16
  go_wp2
  go_loop [5, 8] (fun _ i => i = .int .i64 0) (fun _ _ => 0)
  case atStart => rfl
  case round =>
    subst hrel
    go_wp2
    go_ret
    exact ⟨rfl, rfl⟩

/-- slices.Contains. -/
theorem contains_any (v : Value) (ss : List ByteArray) (x : ByteArray) (w : World) (hv : Strs w v ss) (hbig : ss.length ≤ 9223372036854775807) :
    Calls Try.prog 14 #[v, .string x] w fun e w' => e = .returned (.bool (Lib.containsS ss x)) ∧ w' = w := by
  rcases hv with ⟨rfl, a, c, rfl⟩ | ⟨b, off, c, rfl, hc⟩
  · go_enter Try.func14, Try.ntmps14
    go_wp2_with fail
    refine (index_empty a c x _).mono ?_
    rintro e w' ⟨rfl, rfl⟩
    go_wp2
    go_ret
    exact ⟨rfl, rfl⟩
  · unfold Lib.containsS
    have H : Hid (∀ j, j < ss.length → w.cell? ⟨b, off + j, none⟩ = some (.string (ss.getD j ByteArray.empty))) := hc
    clear hc
    go_enter Try.func14, Try.ntmps14
    go_wp2_with fail
    refine (index_row b off ss.length c ss x _ (Nat.le_refl _) hbig H.out).mono ?_
    rintro e w' ⟨rfl, rfl⟩
    rw [List.take_length]
    go_wp2
    go_ret
    exact ⟨rfl, rfl⟩

/-- What Covers answers. -/
def covB (ts es : List ByteArray) (t : ByteArray) : Bool := if ts = [] then !(Lib.containsS es t) else Lib.containsS ts t

theorem len_pos {w : World} {v : Value} {ss : List ByteArray} (hv : Strs w v ss) : ∃ a c, v = .slice a ss.length c := by
  rcases hv with ⟨rfl, a, c, rfl⟩ | ⟨b, off, c, rfl, _⟩
  · exact ⟨a, c, rfl⟩
  · exact ⟨_, c, rfl⟩

set_option maxHeartbeats 1000000 in
theorem covers_any (tv ev r2 r3 r4 r5 r6 r7 r8 : Value) (ts es : List ByteArray) (x : ByteArray) (w : World) (ht : Strs w tv ts) (he : Strs w ev es) (hbt : ts.length ≤ 9223372036854775807) (hbe : es.length ≤ 9223372036854775807) :
    Calls Try.prog 12 #[.agg #[tv, ev, r2, r3, r4, r5, r6, r7, r8], .string x] w fun e w' => e = .returned (.bool (covB ts es x)) ∧ Below w.heap.size w w' := by
  obtain ⟨ta, tc, htv⟩ := len_pos ht
  obtain ⟨ea, ec, hev⟩ := len_pos he
  subst htv hev
  by_cases h0 : ts = []
  · subst h0
    unfold covB
    rw [if_pos rfl]
    have HT := hide ht
    have HE := hide he
    clear ht he
    go_enter Try.func12, Try.ntmps12
    go_wp2_with fail
    refine (contains_any _ es x _ ((unhide HE).keeps (keeps_of_below ((Below.refl _ _).alloc (Nat.le_refl _) _))) hbe).mono ?_
    rintro e w' ⟨rfl, rfl⟩
    go_wp2
    go_ret
    exact ⟨rfl, (Below.refl _ _).alloc (Nat.le_refl _) _⟩
  · unfold covB
    rw [if_neg h0]
    have hp : (0 : Int) < (ts.length : Int) := by have := List.length_pos_iff.2 h0; omega
    have HT := hide ht
    have HE := hide he
    clear ht he h0
    go_enter Try.func12, Try.ntmps12
    go_wp2_with fail
    refine (contains_any _ ts x _ ((unhide HT).keeps (keeps_of_below ((Below.refl _ _).alloc (Nat.le_refl _) _))) hbt).mono ?_
    rintro e w' ⟨rfl, rfl⟩
    go_wp2
    go_ret
    exact ⟨rfl, (Below.refl _ _).alloc (Nat.le_refl _) _⟩

theorem zzcovers_any (tv ev : Value) (ts es : List ByteArray) (x : ByteArray) (w : World) (ht : Strs w tv ts) (he : Strs w ev es) (hbt : ts.length ≤ 9223372036854775807) (hbe : es.length ≤ 9223372036854775807) :
    Calls Try.prog 9 #[tv, ev, .string x] w fun e w' => e = .returned (.bool (covB ts es x)) ∧ Below w.heap.size w w' := by
  obtain ⟨ta, tc, htv⟩ := len_pos ht
  obtain ⟨ea, ec, hev⟩ := len_pos he
  subst htv hev
  have HT := hide ht
  have HE := hide he
  clear ht he
  go_enter Try.func9, Try.ntmps9
  go_wp2_with fail
  refine (covers_any _ _ _ _ _ _ _ _ _ ts es x _ (unhide HT) (unhide HE) hbt hbe).mono ?_
  rintro e w' ⟨rfl, hb⟩
  go_wp2
  go_ret
  exact ⟨rfl, hb⟩

end Go.Proofs.Qxb6614671a
