/-
  (*Conn).readPayload, readPacket, ReadPacket: the walks.
-/
import Derived.Test.Qxb6616818aFmtErrorf
namespace Go.Proofs.Qxb6616818aFmt
open Go.RowKit Go.Extern.Stop Go.Stop Go.Extern

/-- the four sentinels that are read: where they lie, what they hold -/
structure Sents (w : World) (base : Nat) (aE aU aS aP : Addr) : Prop where
  lo : 7 ≤ base
  e : w.cell? ⟨1, 0, none⟩ = some (.iface 99 (.pointer (some aE)))
  u : w.cell? ⟨2, 0, none⟩ = some (.iface 99 (.pointer (some aU)))
  s : w.cell? ⟨3, 0, none⟩ = some (.iface 99 (.pointer (some aS)))
  p : w.cell? ⟨4, 0, none⟩ = some (.iface 99 (.pointer (some aP)))
  te : ∃ x, w.cell? aE = some (.string x)
  tu : ∃ x, w.cell? aU = some (.string x)
  ts : ∃ x, w.cell? aS = some (.string x)
  ne : aU ≠ aE
  be : ∃ c t, w.heap[aE.block]? = some (.cells c t (0, 0))
  bu : ∃ c t, w.heap[aU.block]? = some (.cells c t (0, 0))
  le : aE.block < base
  lu : aU.block < base
  ls : aS.block < base

theorem Sents.keep {S : Nat → Prop} {w w' : World} {base : Nat} {aE aU aS aP : Addr} (h : Sents w base aE aU aS aP) (k : Keep S w w') (hS : ∀ i, S i → base ≤ i) : Sents w' base aE aU aS aP := by
  have hn : ∀ i, i < base → ¬ S i := fun i hi x => by have := hS i x; omega
  have lo := h.lo
  obtain ⟨x1, h1⟩ := h.te
  obtain ⟨x2, h2⟩ := h.tu
  obtain ⟨x3, h3⟩ := h.ts
  obtain ⟨c4, t4, h4⟩ := h.be
  obtain ⟨c5, t5, h5⟩ := h.bu
  exact ⟨lo, k.cell h.e (hn _ (by show 1 < base; omega)), k.cell h.u (hn _ (by show 2 < base; omega)), k.cell h.s (hn _ (by show 3 < base; omega)), k.cell h.p (hn _ (by show 4 < base; omega)),
    ⟨x1, k.cell h1 (hn _ h.le)⟩, ⟨x2, k.cell h2 (hn _ h.lu)⟩, ⟨x3, k.cell h3 (hn _ h.ls)⟩, h.ne,
    ⟨c4, t4, (k.block _ (Array.getElem?_eq_some_iff.1 h4).1 (hn _ h.le)).trans h4⟩, ⟨c5, t5, (k.block _ (Array.getElem?_eq_some_iff.1 h5).1 (hn _ h.lu)).trans h5⟩, h.le, h.lu, h.ls⟩

/-- the connection in block C: its reader, its writer, the number that is due, the longest payload, the room that is kept -/
def Con (w : World) (C R N g0 : Nat) (q : Nat) (mp : Int) : Prop :=
  ∃ cc v, Row w C 61 cc ∧ cc.length = 41 ∧ cc[0]? = some (.pointer (some ⟨R, 0, none⟩)) ∧ cc[2]? = some (.int .u8 (q : Int)) ∧ cc[3]? = some (.int .i64 mp) ∧ cc[4]? = some v ∧ Room w N g0 v []
end Go.Proofs.Qxb6616818aFmt
