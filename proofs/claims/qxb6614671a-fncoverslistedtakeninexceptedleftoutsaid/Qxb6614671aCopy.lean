/-
  'zzc := make([]string, len(l)); copy(zzc, l)' as a law of the walk; what is plain about 'covB'.
-/
import Derived.Test.Qxb6614671aBounds
import Derived.Laws.CopyOwn
import Derived.Deep.OwnRows
import Derived.WalkSpells
namespace Go.Proofs.Qxb6614671a
open Go.ChangeShapes Go.WideShapes Go.ChangeAt Go.RowKit

theorem info9 : (Try.prog.info? 9).map (fun i => (i.zero, i.size, i.bytes)) = some (some (.string ByteArray.empty), 1, 16) := by kernel_rfl
theorem size9 : (Try.prog.info? 9).map (·.size) = some 1 := by kernel_rfl

theorem below_trans {a b c : World} (h : Below a.heap.size a b) (k : Below b.heap.size b c) : Below a.heap.size a c := h.trans (k.mono h.size)

theorem add_mk (b off j : Nat) : (⟨b, off, none⟩ : Addr).add j = ⟨b, off + j, none⟩ := by
  simp only [Addr.add]
  split
  · next h => subst h; rfl
  · rfl

/-- The cells of a row of strings. -/
def cellsOf (ss : List ByteArray) : List Value := ss.map Value.string

theorem cellsOf_at (ss : List ByteArray) (j : Nat) (v : Value) (h : (cellsOf ss)[j]? = some v) : j < ss.length ∧ v = .string (ss.getD j ByteArray.empty) := by
  simp only [cellsOf, List.getElem?_map, Option.map_eq_some_iff] at h
  obtain ⟨s, hs, rfl⟩ := h
  have hj := (List.getElem?_eq_some_iff.1 hs).1
  exact ⟨hj, by simp [List.getD, hs]⟩

/-- A row that holds the cells of ss reads as ss. -/
theorem strs_of_row {w : World} {g n c : Nat} {ss : List ByteArray} {rest : List Value} {e : TypeId} (h : w.heap[g]? = some (.cells (cellsOf ss ++ rest).toArray e (0, 0))) (hn : ss.length = n) : Strs w (.slice (some ⟨g, 0, none⟩) n c) ss := by
  subst hn
  refine .inr ⟨g, 0, c, rfl, fun j hj => ?_⟩
  have hlen : j < (cellsOf ss).length := by simpa [cellsOf] using hj
  have : (cellsOf ss ++ rest)[j]? = some (.string (ss.getD j ByteArray.empty)) := by
    rw [List.getElem?_append_left hlen]
    simp [cellsOf, List.getD, hj]
  simp [World.cell?, h, this]

theorem wpList_copy_strs {w : World} {ops : Array Oper} {rest : List Oper} {o : Oper} {a : Act} {Q : Exit → Act → World → Prop} (hgd : o.guard = none) (d s : Operand)
    (ho : o.op = .call { callee := .builtin .copy, args := #[d, s], argTypes := #[22, 22] })
    (sp : Option Addr) (n c g : Nat) (hd : a.eval d = .slice (some ⟨g, 0, none⟩) n n) (hs : a.eval s = .slice sp n c) (ss : List ByteArray) (hS : Strs w (.slice sp n c) ss) (hlen : ss.length = n)
    (hg : w.heap[g]? = some (.cells (madeCells #[.string ByteArray.empty] n) 9 (0, 0))) (B : Nat) (w0 : World) (hb : Below B w0 w) (hBg : B ≤ g)
    (h : ∀ w', Strs w' (.slice (some ⟨g, 0, none⟩) n n) ss → Below B w0 w' → wpList Try.prog ops Q rest (a.put o.dst (goInt n)) w') :
    wpList Try.prog ops Q (o :: rest) a w := by
  have hl : (cellsOf ss).length = n := by simp [cellsOf, hlen]
  have hm : (madeCells #[Value.string ByteArray.empty] n).toList.length = n := by simp [size_madeCells]
  refine wpList_copy_splice hgd d s 22 22 ho 9 Try.underlying22 size9 _ _ n n n c hd hs g 0 (madeCells #[.string ByteArray.empty] n).toList 9 (by simpa using hg) (cellsOf ss) (by simp [hl]) ?_ (by rw [hl, hm]; omega) ?_ B w0 hb hBg ?_
  · intro hp
    refine ⟨rfl, ?_⟩
    rcases hS with ⟨rfl, _⟩ | ⟨b, off, c', hv, hc⟩
    · simp [cellsOf] at hp
    · cases hv
      refine ⟨_, rfl, fun j v hj => ?_⟩
      obtain ⟨hj', rfl⟩ := cellsOf_at ss j v hj
      rw [add_mk]
      exact hc j hj'
  · intro v hv
    simp only [cellsOf, List.mem_map] at hv
    obtain ⟨s', _, rfl⟩ := hv
    rfl
  · intro w' hw' hb'
    have e : splice (madeCells #[Value.string ByteArray.empty] n).toList 0 (cellsOf ss) = cellsOf ss ++ [] := by
      simp only [splice, List.take_zero, List.nil_append, Nat.zero_add]
      rw [List.drop_eq_nil_of_le (by rw [hm, hl]; exact Nat.le_refl _)]
    rw [hl]
    have h2 := hw'.out
    rw [e] at h2
    exact h w' (strs_of_row h2 hlen) hb'

theorem heap_new (w : World) (o : Obj) : (w.alloc o).heap[w.heap.size]? = some o := by
  show (w.heap.push o)[w.heap.size]? = _
  rw [Array.getElem?_push, if_pos rfl]

/-- The copy that stands right behind its 'make'. -/
theorem wpList_copy_made {w : World} {ops : Array Oper} {rest : List Oper} {o : Oper} {a : Act} {Q : Exit → Act → World → Prop} (hgd : o.guard = none) (d s : Operand)
    (ho : o.op = .call { callee := .builtin .copy, args := #[d, s], argTypes := #[22, 22] })
    (sp : Option Addr) (n c : Nat) (hd : a.eval d = .slice (some ⟨w.heap.size, 0, none⟩) n n) (hs : a.eval s = .slice sp n c) (ss : List ByteArray) (hS : Strs w (.slice sp n c) ss) (hlen : ss.length = n)
    (h : ∀ w', Strs w' (.slice (some ⟨w.heap.size, 0, none⟩) n n) ss → Below w.heap.size w w' → wpList Try.prog ops Q rest (a.put o.dst (goInt n)) w') :
    wpList Try.prog ops Q (o :: rest) a (w.alloc (.cells (madeCells #[.string ByteArray.empty] n) 9)) :=
  wpList_copy_strs hgd d s ho sp n c w.heap.size hd hs ss (hS.keeps (keeps_of_below ((Below.refl _ _).alloc (Nat.le_refl _) _))) hlen (heap_new _ _) w.heap.size w ((Below.refl _ _).alloc (Nat.le_refl _) _) (Nat.le_refl _) h

theorem strs_take {w : World} {a : Option Addr} {n c c' m : Nat} {ss : List ByteArray} (h : Strs w (.slice a n c) ss) (hl : ss.length = n) (hm : m ≤ n) : Strs w (.slice a m c') (ss.take m) := by
  have hlen : (ss.take m).length = m := by simp; omega
  rcases h with ⟨rfl, a', c'', hv⟩ | ⟨b, off, c'', hv, hc⟩
  · cases hv
    have : m = 0 := by simp at hl; omega
    subst this
    exact .inl ⟨rfl, _, _, rfl⟩
  · cases hv
    refine .inr ⟨b, off, c', by rw [hlen], fun j hj => ?_⟩
    have hj' : j < ss.length := by omega
    have hjm : j < m := by omega
    rw [hc j hj']
    simp [List.getD, hjm]

theorem strs_drop {w : World} {b off n c c' m : Nat} {ss : List ByteArray} (h : Strs w (.slice (some ⟨b, off, none⟩) n c) ss) (hl : ss.length = n) (hm : m ≤ n) : Strs w (.slice (some ⟨b, off + m, none⟩) (n - m) c') (ss.drop m) := by
  have hlen : (ss.drop m).length = n - m := by simp; omega
  rcases h with ⟨rfl, a', c'', hv⟩ | ⟨b', off', c'', hv, hc⟩
  · cases hv
    have : m = 0 := by simp at hl; omega
    subst this
    exact .inl ⟨rfl, _, _, rfl⟩
  · cases hv
    refine .inr ⟨b, off + m, c', by rw [hlen], fun j hj => ?_⟩
    have hj' : m + j < ss.length := by omega
    have := hc (m + j) hj'
    rw [Nat.add_assoc, this]
    simp [List.getD]

theorem strs_drop0 {w : World} {b n c c' m : Nat} {ss : List ByteArray} (h : Strs w (.slice (some ⟨b, 0, none⟩) n c) ss) (hl : ss.length = n) (hm : m ≤ n) : Strs w (.slice (some ⟨b, m, none⟩) (n - m) c') (ss.drop m) := by
  have := strs_drop (c' := c') h hl hm
  rwa [Nat.zero_add] at this

theorem strs_drop_all {w : World} {a : Option Addr} {n c m : Nat} {ss : List ByteArray} (hl : ss.length = n) (hm : n = m) : Strs w (.slice a 0 c) (ss.drop m) := by
  have : ss.drop m = [] := List.drop_eq_nil_of_le (by omega)
  rw [this]
  exact .inl ⟨rfl, _, _, rfl⟩

theorem cov_both (ts es : List ByteArray) (x : ByteArray) (h : ts = []) : covB ts es x = covB [] es x := by subst h; rfl


/-! ### What is plain about 'covB' -/
theorem contains_append (xs ys : List ByteArray) (t : ByteArray) : Lib.containsS (xs ++ ys) t = (Lib.containsS xs t || Lib.containsS ys t) := by
  rw [Bool.eq_iff_iff]; simp [Lib.containsS_iff]
theorem cov_nil (t : ByteArray) : covB [] [] t = true := by
  have : Lib.containsS [] t = false := by rw [Bool.eq_false_iff]; simp [Lib.containsS_iff]
  simp [covB, this]
theorem cov_split (es : List ByteArray) (k : Nat) (t : ByteArray) : covB [] es t = (covB [] (es.take k) t && covB [] (es.drop k) t) := by
  simp only [covB, if_true]
  rw [← Bool.not_or, ← contains_append, List.take_append_drop]
theorem cov_some (ts es : List ByteArray) (t : ByteArray) (h : ts ≠ []) : covB ts es t = covB ts [] t := by simp [covB, h]

end Go.Proofs.Qxb6614671a
