/-
  WHAT THE WALKS ARE TOLD OF THE SLICE OF PARTS THAT CAME IN: no Go function in sight.
-/
import Derived.WalkKit
import Derived.WalkLawsBesides
import Derived.WalkSmall
namespace Go.Proofs.Qxb6616796a
open Go.RowKit

/-- one LawPart's nine cells -/
structure LP : Type where
  ty : ByteArray
  tx : ByteArray
  st : ByteArray
  tn : ByteArray
  tc : ByteArray
  ia : Option Addr
  il : Nat
  ic : Nat
  oa : Option Addr
  ol : Nat
  oc : Nat
  er : ByteArray
  ap : Option Addr

/-- a slice of bytes that can be read -/
def BytesAt (w : World) (a : Option Addr) (n c : Nat) : Prop :=
  (a = none ∧ n = 0 ∧ c = 0) ∨ ∃ x, a = some x ∧ n ≤ c ∧ ∀ j, j < n → ∃ z : Int, w.cell? (x.add j) = some (.int .u8 z)

/-- a LawApproval behind a pointer, or nil -/
def ApprAt (w : World) (a : Option Addr) : Prop :=
  a = none ∨ ∃ (b o : Nat) (i r : ByteArray) (q : Option Addr), a = some ⟨b, o, none⟩ ∧ w.cell? ⟨b, o, none⟩ = some (.string i) ∧ w.cell? ⟨b, o + 1, none⟩ = some (.pointer q) ∧ w.cell? ⟨b, o + 2, none⟩ = some (.string r) ∧
    i.size ≤ maxLen ∧ r.size ≤ maxLen ∧ (q = none ∨ ∃ (qb qo : Nat) (v : Bool), q = some ⟨qb, qo, none⟩ ∧ w.cell? ⟨qb, qo, none⟩ = some (.bool v))

structure PartAt (w : World) (b o : Nat) (p : LP) : Prop where
  c0 : w.cell? ⟨b, o, none⟩ = some (.string p.ty)
  c1 : w.cell? ⟨b, o + 1, none⟩ = some (.string p.tx)
  c2 : w.cell? ⟨b, o + 2, none⟩ = some (.string p.st)
  c3 : w.cell? ⟨b, o + 3, none⟩ = some (.string p.tn)
  c4 : w.cell? ⟨b, o + 4, none⟩ = some (.string p.tc)
  c5 : w.cell? ⟨b, o + 5, none⟩ = some (.slice p.ia p.il p.ic)
  c6 : w.cell? ⟨b, o + 6, none⟩ = some (.slice p.oa p.ol p.oc)
  c7 : w.cell? ⟨b, o + 7, none⟩ = some (.string p.er)
  c8 : w.cell? ⟨b, o + 8, none⟩ = some (.pointer p.ap)
  s0 : p.ty.size ≤ maxLen
  s1 : p.tx.size ≤ maxLen
  s2 : p.st.size ≤ maxLen
  s3 : p.tn.size ≤ maxLen
  s4 : p.tc.size ≤ maxLen
  s7 : p.er.size ≤ maxLen
  bi : BytesAt w p.ia p.il p.ic
  bo : BytesAt w p.oa p.ol p.oc
  ap : ApprAt w p.ap

/-- the slice of parts: no element, or a row of them -/
def PartsAt (w : World) (a : Option Addr) (n : Nat) (ps : Nat → LP) : Prop :=
  n = 0 ∨ ∃ b o, a = some ⟨b, o, none⟩ ∧ ∀ j, j < n → PartAt w b (o + j * 9) (ps j)

/-- the byte slices are short -/
def Fit (ps : Nat → LP) (n : Nat) : Prop := ∀ j, j < n → (ps j).il ≤ 1048576 ∧ (ps j).ol ≤ 1048576
theorem fit_succ {ps : Nat → LP} {n : Nat} (h : Fit ps n) (h1 : (ps n).il ≤ 1048576) (h2 : (ps n).ol ≤ 1048576) : Fit ps (n + 1) := by
  intro j hj
  rcases Nat.lt_succ_iff_lt_or_eq.1 hj with h3 | rfl
  · exact h j h3
  · exact ⟨h1, h2⟩

theorem cell_kept {B : Nat} {w w' : World} (h : Below B w w') (hB : w.heap.size ≤ B) {a : Addr} {v : Value} (hc : w.cell? a = some v) : w'.cell? a = some v := by
  rw [h.cell (p := a) (Nat.lt_of_lt_of_le (World.block_lt_of_cell? w a hc) hB)]; exact hc

theorem BytesAt.kept {w w' : World} {a : Option Addr} {n c : Nat} (h : BytesAt w a n c) (hb : Below w.heap.size w w') : BytesAt w' a n c := by
  rcases h with h | ⟨x, h1, h2, h4⟩
  · exact .inl h
  · exact .inr ⟨x, h1, h2, fun j hj => by obtain ⟨z, hz⟩ := h4 j hj; exact ⟨z, cell_kept hb (Nat.le_refl _) hz⟩⟩

theorem ApprAt.kept {w w' : World} {a : Option Addr} (h : ApprAt w a) (hb : Below w.heap.size w w') : ApprAt w' a := by
  rcases h with h | ⟨b, o, i, r, q, h1, h2, h3, h4, h5, h6, h7⟩
  · exact .inl h
  · refine .inr ⟨b, o, i, r, q, h1, cell_kept hb (Nat.le_refl _) h2, cell_kept hb (Nat.le_refl _) h3, cell_kept hb (Nat.le_refl _) h4, h5, h6, ?_⟩
    rcases h7 with h7 | ⟨qb, qo, v, h8, h9⟩
    · exact .inl h7
    · exact .inr ⟨qb, qo, v, h8, cell_kept hb (Nat.le_refl _) h9⟩

theorem PartAt.kept {w w' : World} {b o : Nat} {p : LP} (h : PartAt w b o p) (hb : Below w.heap.size w w') : PartAt w' b o p :=
  ⟨cell_kept hb (Nat.le_refl _) h.c0, cell_kept hb (Nat.le_refl _) h.c1, cell_kept hb (Nat.le_refl _) h.c2, cell_kept hb (Nat.le_refl _) h.c3, cell_kept hb (Nat.le_refl _) h.c4, cell_kept hb (Nat.le_refl _) h.c5,
   cell_kept hb (Nat.le_refl _) h.c6, cell_kept hb (Nat.le_refl _) h.c7, cell_kept hb (Nat.le_refl _) h.c8, h.s0, h.s1, h.s2, h.s3, h.s4, h.s7, h.bi.kept hb, h.bo.kept hb, h.ap.kept hb⟩

theorem PartsAt.kept {w w' : World} {a : Option Addr} {n : Nat} {ps : Nat → LP} (h : PartsAt w a n ps) (hb : Below w.heap.size w w') : PartsAt w' a n ps := by
  rcases h with h | ⟨b, o, h1, h2⟩
  · exact .inl h
  · exact .inr ⟨b, o, h1, fun j hj => (h2 j hj).kept hb⟩

end Go.Proofs.Qxb6616796a
