/-
  (readSnapshotMsg).encode and ZZencodeReadSnapshot: the byte 16, the varint of the position, the varint of the offset as a uint64.
-/
import Derived.Test.Qxb6616714aShelf
import Derived.Test.Qxb6616714aGroups
import Derived.WalkKit
import Derived.WalkLawsBesides
namespace Go.Proofs.Qxb6616714a
open Go.RowKit

/-- the offset as a uint64 -/
def u64 (o : Int) : Nat := (o % 18446744073709551616).toNat
theorem u64_lt (o : Int) : u64 o < 18446744073709551616 := by unfold u64; omega
theorem u64_cast (o : Int) : (u64 o : Int) = o % 18446744073709551616 := by unfold u64; omega

def enc (p : Nat) (o : Int) : List UInt8 := 16 :: (Lib.uvarint p ++ Lib.uvarint (u64 o))

theorem wrap_u64 (o : Int) : IntKind.u64.wrap o = ((u64 o : Nat) : Int) := by
  rw [u64_cast]; simp [IntKind.wrap, IntKind.signed, IntKind.bits]
theorem own_down {w : World} {b b' : Nat} {e : TypeId} {size : Nat} {v : Value} {n : Nat} {xs : List Value} (h : w.ownsRow b e size v n xs) (hb : b' ≤ b) : w.ownsRow b' e size v n xs := by
  refine ⟨h.1, ?_⟩
  rcases h.2 with h2 | ⟨g, cap, cur, hv, hg, r⟩
  · exact .inl h2
  · exact .inr ⟨g, cap, cur, hv, Nat.le_trans hb hg, r⟩
theorem own_lit (w : World) (o : Obj) : ((w.alloc o).alloc (.cells #[Value.int .u8 16] 5)).ownsRow (w.heap.size + 1) 5 1 (.slice (some ⟨w.heap.size + 1, 0, none⟩) 1 1) 1 [Value.int .u8 16] := by
  refine ⟨rfl, .inr ⟨w.heap.size + 1, 1, #[Value.int .u8 16], rfl, Nat.le_refl _, ?_, Nat.le_refl _, by decide, rfl, rfl⟩⟩
  have h := heap_alloc_new (w.alloc o) (.cells #[Value.int .u8 16] 5)
  have e : (w.alloc o).heap.size = w.heap.size + 1 := by simp
  rw [e] at h
  exact h

set_option maxHeartbeats 400000 in
set_option maxRecDepth 100000 in
theorem encode_any (p : Nat) (hp : p < 18446744073709551616) (o : Int) (w : World) :
    Calls Try.prog 34 #[.agg #[.int .u64 (p : Int), .int .i64 o]] w fun e w' => ∃ v, e = .returned v ∧ w'.ownsRow (w.heap.size + 1) 5 1 v (enc p o).length (Lib.byteCells (enc p o)) ∧ Below w.heap.size w w' := by
  have HP : Hid (p < 18446744073709551616) := hp
  clear hp
  go_enter Try.func34, Try.ntmps34
  go_wp2_with fail
  refine (Try.binary_AppendUvarint (w.heap.size + 1) 1 p HP.out _ [.int .u8 16] _ (own_lit w _) (by simp) (by omega)).mono ?_
  rintro e w1 ⟨v1, rfl, hown1, hb1⟩
  have hc1 : w1.cell? ⟨w.heap.size, 1, none⟩ = some (.int .i64 o) := by
    rw [hb1.cell (p := ⟨w.heap.size, 1, none⟩) (by simp)]; simp
  have hz : w.heap.size + 1 ≤ w1.heap.size := by have := hb1.size; simp at this; omega
  have HO : Hid (w1.ownsRow (w.heap.size + 1) 5 1 v1 (1 + (Lib.uvarint p).length) ([Value.int .u8 16] ++ Lib.byteCells (Lib.uvarint p))) := hown1
  have HB := hb1
  clear hown1 hb1
  go_wp2_with fail
  rw [wrap_u64 o]
  refine (Try.binary_AppendUvarint (w.heap.size + 1) (1 + (Lib.uvarint p).length) (u64 o) (u64_lt o) _ _ _ HO.out hz (by have := Lib.uvarint_length64 HP.out; omega)).mono ?_
  rintro e w2 ⟨v2, rfl, hown2, hb2⟩
  have HO2 : Hid (w2.ownsRow (w.heap.size + 1) 5 1 v2 (1 + (Lib.uvarint p).length + (Lib.uvarint (u64 o)).length) ([Value.int .u8 16] ++ Lib.byteCells (Lib.uvarint p) ++ Lib.byteCells (Lib.uvarint (u64 o)))) := hown2
  clear hown2
  go_wp2
  go_ret
  refine ⟨v2, rfl, ?_, ?_⟩
  · have h := HO2.out
    have e1 : (enc p o).length = 1 + (Lib.uvarint p).length + (Lib.uvarint (u64 o)).length := by simp [enc]; omega
    have e2 : Lib.byteCells (enc p o) = [Value.int .u8 16] ++ Lib.byteCells (Lib.uvarint p) ++ Lib.byteCells (Lib.uvarint (u64 o)) := by simp [enc, Lib.byteCells]
    rw [e1, e2]; exact h
  · exact (((Below.refl _ _).alloc (Nat.le_refl _) _).alloc (by simp) _).trans ((HB.trans hb2).mono (by simp))

set_option maxHeartbeats 400000 in
set_option maxRecDepth 100000 in
theorem zzencode_any (p : Nat) (hp : p < 18446744073709551616) (o : Int) (w : World) :
    Calls Try.prog 16 #[.int .u64 (p : Int), .int .i64 o] w fun e w' => ∃ v, e = .returned v ∧ w'.ownsRow w.heap.size 5 1 v (enc p o).length (Lib.byteCells (enc p o)) ∧ Below w.heap.size w w' := by
  have HP : Hid (p < 18446744073709551616) := hp
  clear hp
  go_enter Try.func16, Try.ntmps16
  go_wp2_with fail
  refine (encode_any p HP.out o _).mono ?_
  rintro e w1 ⟨v1, rfl, hown1, hb1⟩
  have HO : Hid (w1.ownsRow (w.heap.size + 1) 5 1 v1 (enc p o).length (Lib.byteCells (enc p o))) := hown1
  clear hown1
  go_wp2
  go_ret
  exact ⟨v1, rfl, own_down HO.out (by omega), hb1⟩
end Go.Proofs.Qxb6616714a
