/-
  FnReadSnapshotEncodeFieldsStandApart: the walk.
-/
import Derived.Test.Qxb6616714aEnc
import Derived.Deep.QuietTactic
import Derived.BigQuiet
import Derived.WalkSmall
namespace Go.Proofs.Qxb6616714a
open Go.RowKit

/-- byte j of a text, as a number -/
def byt (l : List UInt8) (j : Nat) : Int := ((l.getD j 0).toNat : Int)

/-- WHAT A CALLER KNOWS OF A SLICE OF BYTES THAT A CALLEE MADE. -/
theorem row_of {w : World} {B : Nat} {v : Value} {l : List UInt8} (hpos : 1 ≤ l.length) (h : w.ownsRow B 5 1 v l.length (Lib.byteCells l)) :
    ∃ g cap, v = .slice (some ⟨g, 0, none⟩) l.length cap ∧ B ≤ g ∧ g < w.heap.size ∧ l.length ≤ cap ∧ cap ≤ maxLen ∧ ∀ j, j < l.length → w.cell? ⟨g, j, none⟩ = some (.int .u8 (byt l j)) := by
  rcases h.2 with ⟨_, h0⟩ | ⟨g, cap, cur, hv, hg, hh, hle, hm, hs, ht⟩
  · omega
  · refine ⟨g, cap, hv, hg, (Array.getElem?_eq_some_iff.1 hh).1, hle, hm, fun j hj => ?_⟩
    have e : cur.toList[j]? = some (.int .u8 (byt l j)) := by
      have e1 : (cur.toList.take (l.length * 1))[j]? = (Lib.byteCells l)[j]? := by rw [ht]
      rw [List.getElem?_take, if_pos (by omega)] at e1
      rw [e1]
      simp [Lib.byteCells, byt, hj]
    have e2 : cur[j]? = some (.int .u8 (byt l j)) := by simpa using e
    simp [World.cell?, hh, e2]

theorem enc_len (p : Nat) (o : Int) : (enc p o).length = 1 + (Lib.uvarint p).length + (Lib.uvarint (u64 o)).length := by simp [enc]; omega

theorem byt_head (p : Nat) (o o' : Int) (k : Nat) (h : k < 1 + (Lib.uvarint p).length) : byt (enc p o) k = byt (enc p o') k := by
  unfold byt enc
  cases k with
  | zero => rfl
  | succ k =>
    simp only [List.getD_cons_succ]
    simp only [List.getD_eq_getElem?_getD]
    rw [List.getElem?_append_left (by omega), List.getElem?_append_left (by omega)]

theorem byt_tail (p p' : Nat) (o : Int) (k : Nat) : byt (enc p o) (1 + (Lib.uvarint p).length + k) = byt (enc p' o) (1 + (Lib.uvarint p').length + k) := by
  unfold byt enc
  rw [show 1 + (Lib.uvarint p).length + k = (Lib.uvarint p).length + k + 1 by omega, show 1 + (Lib.uvarint p').length + k = (Lib.uvarint p').length + k + 1 by omega]
  simp only [List.getD_cons_succ]
  simp only [List.getD_eq_getElem?_getD]
  rw [List.getElem?_append_right (by omega), List.getElem?_append_right (by omega), Nat.add_sub_cancel_left, Nat.add_sub_cancel_left]

set_option maxHeartbeats 1000000 in
set_option maxRecDepth 100000 in
theorem apart_any (p1 : Nat) (hp1 : p1 < 18446744073709551616) (o1 : Int) (p2 : Nat) (hp2 : p2 < 18446744073709551616) (o2 : Int) (w : World) :
    Calls Try.prog 5 #[.int .u64 (p1 : Int), .int .i64 o1, .int .u64 (p2 : Int), .int .i64 o2] w fun e w' => e = .returned (.bool true) ∧ Below w.heap.size w w' := by
  have HP1 : Hid (p1 < 18446744073709551616) := hp1
  have HP2 : Hid (p2 < 18446744073709551616) := hp2
  clear hp1 hp2
  go_enter Try.func5, Try.ntmps5
  go_wp2_with fail
  refine (zzencode_any p1 HP1.out o1 _).mono ?_
  rintro e w1 ⟨v1, rfl, hown1, hb1⟩
  obtain ⟨g1, cap1, hv1, hg1, hgs1, hle1, hm1, hc1⟩ := row_of (by simp [enc]) hown1
  rw [hv1]
  clear hown1 hv1 v1
  go_wp2_with fail
  refine (zzencode_any p2 HP2.out o2 _).mono ?_
  rintro e w2 ⟨v2, rfl, hown2, hb2⟩
  obtain ⟨g2, cap2, hv2, hg2, hgs2, hle2, hm2, hc2⟩ := row_of (by simp [enc]) hown2
  rw [hv2]
  clear hown2 hv2 v2
  go_wp2_with fail
  refine (zzencode_any p1 HP1.out o2 _).mono ?_
  rintro e w3 ⟨v3, rfl, hown3, hb3⟩
  obtain ⟨g3, cap3, hv3, hg3, hgs3, hle3, hm3, hc3⟩ := row_of (by simp [enc]) hown3
  rw [hv3]
  clear hown3 hv3 v3
  have hz1 := hb2.size
  have hz2 := hb3.size
  have hC1 : ∀ j, j < (enc p1 o1).length → w3.cell? ⟨g1, j, none⟩ = some (.int .u8 (byt (enc p1 o1) j)) := fun j hj => by
    rw [hb3.cell (p := ⟨g1, j, none⟩) (by show g1 < _; omega), hb2.cell (p := ⟨g1, j, none⟩) (by show g1 < _; omega)]; exact hc1 j hj
  have hC2 : ∀ j, j < (enc p2 o2).length → w3.cell? ⟨g2, j, none⟩ = some (.int .u8 (byt (enc p2 o2) j)) := fun j hj => by
    rw [hb3.cell (p := ⟨g2, j, none⟩) (by show g2 < _; omega)]; exact hc2 j hj
  have hB : Below w.heap.size w w3 := hb1.trans ((hb2.mono hb1.size).trans (hb3.mono (Nat.le_trans hb1.size hb2.size)))
  clear hc1 hc2 hb1 hb2 hb3 hz1 hz2 hgs1 hgs2 hgs3 hg1 hg2 hg3
  have la1 := Lib.uvarint_length64 HP1.out
  have la2 := Lib.uvarint_length64 HP2.out
  have lb1 := Lib.uvarint_length64 (u64_lt o1)
  have lb2 := Lib.uvarint_length64 (u64_lt o2)
  have hE1 : ∀ k, k < 1 + (Lib.uvarint p1).length → w3.cell? ⟨g3, k, none⟩ = some (.int .u8 (byt (enc p1 o1) k)) := fun k hk => by
    rw [hc3 k (by rw [enc_len]; omega), byt_head p1 o2 o1 k hk]
  have hE2 : ∀ k, 1 + (Lib.uvarint p2).length ≤ k → k < 1 + (Lib.uvarint p2).length + (Lib.uvarint (u64 o2)).length → w3.cell? ⟨g3, 1 + (Lib.uvarint p1).length + k - (1 + (Lib.uvarint p2).length), none⟩ = some (.int .u8 (byt (enc p2 o2) k)) := fun k h1 h2 => by
    obtain ⟨j, rfl⟩ : ∃ j, k = 1 + (Lib.uvarint p2).length + j := ⟨k - (1 + (Lib.uvarint p2).length), by omega⟩
    rw [show 1 + (Lib.uvarint p1).length + (1 + (Lib.uvarint p2).length + j) - (1 + (Lib.uvarint p2).length) = 1 + (Lib.uvarint p1).length + j by omega]
    rw [hc3 _ (by rw [enc_len]; omega), byt_tail p1 p2 o2 j]
  have hE0 : w3.cell? ⟨g3, 0, none⟩ = some (.int .u8 16) := by
    rw [hc3 0 (by rw [enc_len]; omega)]; rfl
  rw [enc_len] at hC1 hC2 hle1 hle2 hle3
  rw [enc_len, enc_len, enc_len]
  have GP1 : Hid (∀ w : World, Calls Try.prog 19 #[.int .u64 (p1 : Int)] w fun e w' => e = .returned (.int .i64 ((Lib.uvarint p1).length : Int)) ∧ w = w') := groups_any p1 HP1.out
  have GP2 : Hid (∀ w : World, Calls Try.prog 19 #[.int .u64 (p2 : Int)] w fun e w' => e = .returned (.int .i64 ((Lib.uvarint p2).length : Int)) ∧ w = w') := groups_any p2 HP2.out
  have GO1 : Hid (∀ w : World, Calls Try.prog 19 #[.int .u64 (u64 o1 : Int)] w fun e w' => e = .returned (.int .i64 ((Lib.uvarint (u64 o1)).length : Int)) ∧ w = w') := groups_any _ (u64_lt o1)
  have GO2 : Hid (∀ w : World, Calls Try.prog 19 #[.int .u64 (u64 o2 : Int)] w fun e w' => e = .returned (.int .i64 ((Lib.uvarint (u64 o2)).length : Int)) ∧ w = w') := groups_any _ (u64_lt o2)
  clear hc3
  have k1 : Hid (∀ k, byt (enc p1 o1) k = byt (enc p1 o1) k) := fun _ => rfl
  generalize byt (enc p1 o1) = y1 at *
  generalize byt (enc p2 o2) = y2 at *
  generalize (Lib.uvarint p1).length = a1 at *
  generalize (Lib.uvarint p2).length = a2 at *
  generalize (Lib.uvarint (u64 o1)).length = b1 at *
  generalize (Lib.uvarint (u64 o2)).length = b2 at *
  clear k1
  have HC1 : Hid (∀ j, j < 1 + a1 + b1 → w3.cell? ⟨g1, j, none⟩ = some (.int .u8 (y1 j))) := hC1
  have HC2 : Hid (∀ j, j < 1 + a2 + b2 → w3.cell? ⟨g2, j, none⟩ = some (.int .u8 (y2 j))) := hC2
  have HE1 : Hid (∀ k, k < 1 + a1 → w3.cell? ⟨g3, k, none⟩ = some (.int .u8 (y1 k))) := hE1
  have HE2 : Hid (∀ k, 1 + a2 ≤ k → k < 1 + a2 + b2 → w3.cell? ⟨g3, 1 + a1 + k - (1 + a2), none⟩ = some (.int .u8 (y2 k))) := hE2
  clear hC1 hC2 hE1 hE2
  go_wp2_with fail
  refine (GP1.out _).mono ?_
  rintro e w' ⟨rfl, rfl⟩
  go_wp2_with fail
  refine (GP2.out _).mono ?_
  rintro e w' ⟨rfl, rfl⟩
  go_wp2_with fail
  rw [wrap_u64 o1]
  refine (GO1.out _).mono ?_
  rintro e w' ⟨rfl, rfl⟩
  go_wp2_with fail
  rw [wrap_u64 o2]
  refine (GO2.out _).mono ?_
  rintro e w' ⟨rfl, rfl⟩
  go_wp2_with fail
  rw [wrap_u64 o2]
  refine (GO2.out _).mono ?_
  rintro e w' ⟨rfl, rfl⟩
  go_wp2
  go_loopw [14] (fun t wr => ∃ k n : Nat, k ≤ 1 + a1 ∧ t = .int .i64 (k : Int) ∧ wr = w3.drewN n) (fun t _ => 1 + a1 - (intOf t).toNat)
  case atStart => exact ⟨0, 0, by omega, rfl, rfl⟩
  case round =>
    obtain ⟨k, n, hk, rfl, rfl⟩ := hrel
    by_cases hlt : k < 1 + a1
    · have c1 := HC1.out k (by omega)
      have c3 := HE1.out k hlt
      have i1 : (k : Int) < 1 + (a1 : Int) := by omega
      have i2 : (k : Int) < 1 + (a1 : Int) + (b1 : Int) := by omega
      have i3 : (k : Int) < 1 + (a1 : Int) + (b2 : Int) := by omega
      go_wp2
      go_quiet (fail)
      go_wp2
      go_roundw
      case rel => exact ⟨k + 1, _, by omega, by go_num, rfl⟩
      case measure => simp [intOf]; omega
    · have i1 : ¬ (k : Int) < 1 + (a1 : Int) := by omega
      go_wp2
      go_loopw [15] (fun t wr => ∃ k m : Nat, 1 + a2 ≤ k ∧ k ≤ 1 + a2 + b2 ∧ t = .int .i64 (k : Int) ∧ wr = w3.drewN m) (fun t _ => 1 + a2 + b2 - (intOf t).toNat)
      case atStart => exact ⟨1 + a2, n, by omega, by omega, by go_num, rfl⟩
      case round =>
        clear hlt i1 hk
        obtain ⟨q, m, hk0, hk, rfl, rfl⟩ := hrel
        by_cases hlt : q < 1 + a2 + b2
        · have c2 := HC2.out q (by omega)
          have c3 := HE2.out q hk0 hlt
          have i1 : (q : Int) < 1 + (a2 : Int) + (b2 : Int) := by omega
          have i2 : (0 : Int) ≤ 1 + (a1 : Int) + (q : Int) - (1 + (a2 : Int)) := by omega
          have i3 : 1 + (a1 : Int) + (q : Int) - (1 + (a2 : Int)) < 1 + (a1 : Int) + (b2 : Int) := by omega
          go_wp2
          go_quiet (fail)
          go_wp2
          go_roundw
          case rel => exact ⟨q + 1, _, by omega, by omega, by go_num, rfl⟩
          case measure => simp [intOf]; omega
        · have i1 : ¬ (q : Int) < 1 + (a2 : Int) + (b2 : Int) := by omega
          go_wp2
          go_ret
          exact ⟨rfl, below_drewN hB _⟩
end Go.Proofs.Qxb6616714a
