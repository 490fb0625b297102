/-
  PLAIN LAWS on rows of parts and their text.
-/
import Derived.Test.Qxb6616796aParts
import Derived.Lib.UnsafeStr
import Derived.Lib.Builder
namespace Go.Proofs.Qxb6616796a
open Go.RowKit

/-- what one part gives to the text: its text, if its type is "text" -/
def sel (p : ByteArray × ByteArray) : List UInt8 := if (p.1.toList == [116, 101, 120, 116]) = true then p.2.data.toList else []
def textL (l : List (ByteArray × ByteArray)) : List UInt8 := l.flatMap sel
theorem textL_append (a b : List (ByteArray × ByteArray)) : textL (a ++ b) = textL a ++ textL b := by simp [textL]
theorem textL_snoc (a : List (ByteArray × ByteArray)) (p : ByteArray × ByteArray) : textL (a ++ [p]) = textL a ++ sel p := by simp [textL]

/-- the lengths of the texts, summed -/
def txLen (l : List (ByteArray × ByteArray)) : Nat := (l.map fun p => p.2.size).sum
theorem txLen_snoc (a : List (ByteArray × ByteArray)) (p : ByteArray × ByteArray) : txLen (a ++ [p]) = txLen a + p.2.size := by simp [txLen]
theorem sel_le (p : ByteArray × ByteArray) : (sel p).length ≤ p.2.size := by
  unfold sel; split
  · exact Nat.le_of_eq (Array.length_toList)
  · simp
theorem textL_le (l : List (ByteArray × ByteArray)) : (textL l).length ≤ txLen l := by
  induction l with
  | nil => simp [textL, txLen]
  | cons p t ih =>
    have := sel_le p
    simp only [textL, txLen, List.flatMap_cons, List.length_append, List.map_cons, List.sum_cons] at ih ⊢
    omega
theorem txLen_take_le (l : List (ByteArray × ByteArray)) (k : Nat) : txLen (l.take k) ≤ txLen l := by
  induction l generalizing k with
  | nil => simp [txLen]
  | cons p t ih =>
    cases k with
    | zero => simp [txLen]
    | succ k =>
      have := ih k
      simp only [txLen, List.take_succ_cons, List.map_cons, List.sum_cons] at this ⊢
      omega

theorem flat_at (qs : List PV) (j i : Nat) (hi : i < 15) (q : PV) (hq : qs[j]? = some q) : (flat qs)[j * 15 + i]? = q.cells[i]? := by
  induction qs generalizing j with
  | nil => simp at hq
  | cons p t ih =>
    have hl := PV.cells_length p
    cases j with
    | zero =>
      simp at hq
      subst hq
      simp only [flat, List.flatMap_cons, Nat.zero_mul, Nat.zero_add]
      rw [List.getElem?_append_left (by omega)]
    | succ j =>
      have e := ih j (by simpa using hq)
      simp only [flat, List.flatMap_cons] at e ⊢
      rw [List.getElem?_append_right (by omega), hl, show (j + 1) * 15 + i - 15 = j * 15 + i by omega]
      exact e

/-- WHAT A READER OF A ROW OF PARTS KNOWS. -/
structure Row33 (w : World) (g n : Nat) (qs : List PV) : Prop where
  len : qs.length = n
  lt : g < w.heap.size
  cell : ∀ (j : Nat) (q : PV), qs[j]? = some q → ∀ i, i < 15 → w.cell? ⟨g, j * 15 + i, none⟩ = q.cells[i]?

theorem row33_of {w : World} {B g n cap : Nat} {qs : List PV} (h : w.ownsRow B 33 15 (.slice (some ⟨g, 0, none⟩) n cap) n (flat qs)) : Row33 w g n qs := by
  have hl := h.1
  rw [flat_length] at hl
  have hlen : qs.length = n := by omega
  rcases h.2 with ⟨hv, _⟩ | ⟨g', cap', cur, hv, hg, hh, hle, hm, hs, ht⟩
  · cases hv
  · cases hv
    refine ⟨hlen, (Array.getElem?_eq_some_iff.1 hh).1, fun j q hq i hi => ?_⟩
    have hj : j < qs.length := (List.getElem?_eq_some_iff.1 hq).1
    rw [cell_at _ hh]
    have e1 : (cur.toList.take (n * 15))[j * 15 + i]? = (flat qs)[j * 15 + i]? := by rw [ht]
    rw [List.getElem?_take, if_pos (by omega), flat_at qs j i hi q hq] at e1
    simpa using e1

theorem Row33.kept {w w' : World} {g n : Nat} {qs : List PV} (h : Row33 w g n qs) {B : Nat} (hB : w.heap.size ≤ B) (hb : Below B w w') : Row33 w' g n qs :=
  ⟨h.len, Nat.lt_of_lt_of_le h.lt hb.size, fun j q hq i hi => (hb.cell (p := ⟨g, j * 15 + i, none⟩) (Nat.lt_of_lt_of_le h.lt hB)).trans (h.cell j q hq i hi)⟩

/-- A builder stands while a new block is laid. -/
theorem builderAt_alloc {T e : TypeId} {B b : Nat} {p : Value} {bs : List Value} {w : World} (h : Lib.BuilderAt T e B b p bs w) (o : Obj) : Lib.BuilderAt T e B b p bs (w.alloc o) := by
  obtain ⟨hB, v, hb, hown, hne⟩ := h
  exact ⟨hB, v, (Below.heap_alloc _ _ _ (Array.getElem?_eq_some_iff.1 hb).1).trans hb, hown.alloc o, hne⟩
theorem isBuilder_alloc {T e : TypeId} {B b : Nat} {bs : List Value} {w : World} (h : Lib.IsBuilder T e B b bs w) (o : Obj) : Lib.IsBuilder T e B b bs (w.alloc o) := by
  rcases h with h | h
  · exact .inl (builderAt_alloc h o)
  · exact .inr (builderAt_alloc h o)
end Go.Proofs.Qxb6616796a
