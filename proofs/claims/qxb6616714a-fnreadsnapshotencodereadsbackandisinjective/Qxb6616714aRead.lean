/-
  zzUvarint(b, i): where x's varint lies from i on, it is read back whole.
-/
import Derived.Test.Qxb6616714aProg
import Derived.Test.Qxb6616714aPlain2
import Derived.WalkKit
import Derived.WalkLawsBesides
import Derived.Lib.VarintBits
namespace Go.Proofs.Qxb6616714a
open Go.RowKit

theorem ret3 {a a' b b' : Int} (ha : a = a') (hb : b = b') : Ending.returned (.tuple #[.int .u64 a, .int .i64 b, .bool true]) = .returned (.tuple #[.int .u64 a', .int .i64 b', .bool true]) := by rw [ha, hb]

set_option maxHeartbeats 4000000 in
set_option maxRecDepth 100000 in
theorem read_any (g n c i x : Nat) (hx : x < 18446744073709551616) (w : World) (hn : i + (Lib.uvarint x).length ≤ n) (hm : n ≤ maxLen)
    (hcell : ∀ k, k < (Lib.uvarint x).length → w.cell? ⟨g, i + k, none⟩ = some (.int .u8 (Pl.num (Lib.uvarint x) k : Int))) :
    Calls Try.prog 17 #[.slice (some ⟨g, 0, none⟩) n c, .int .i64 (i : Int)] w fun e w' => e = .returned (.tuple #[.int .u64 (x : Int), .int .i64 ((i : Int) + ((Lib.uvarint x).length : Int)), .bool true]) ∧ w = w' := by
  unfold maxLen at hm
  have HX : Hid (x < 18446744073709551616) := hx
  have HC : Hid (∀ k, k < (Lib.uvarint x).length → w.cell? ⟨g, i + k, none⟩ = some (.int .u8 (Pl.num (Lib.uvarint x) k : Int))) := hcell
  have HN : Hid (i + (Lib.uvarint x).length ≤ n) := hn
  clear hx hcell hn
  go_enter Try.func17, Try.ntmps17
  go_wp2
  go_loop [1, 7, 8, 9] (fun ti tv ts tk => ∃ k acc y : Nat, k ≤ 9 ∧ Pl.Dec x k acc y ∧ ti = .int .i64 ((i : Int) + (k : Int)) ∧ tv = .int .u64 (acc : Int) ∧ ts = .int .u64 ((7 * k : Nat) : Int) ∧ tk = .int .i64 (k : Int))
    (fun _ _ _ tk => 10 - (intOf tk).toNat)
  case atStart => exact ⟨0, 0, x, by omega, Pl.dec_start x, by simp, rfl, rfl, rfl⟩
  case round =>
    obtain ⟨k, acc, y, hk, hdec, rfl, rfl, rfl, rfl⟩ := hrel
    have HD : Hid (Pl.Dec x k acc y) := hdec
    have hxe := hdec.1
    have hac := hdec.2.1
    have hy1 := hdec.2.2.2
    clear hdec
    rcases (show k = 0 ∨ k = 1 ∨ k = 2 ∨ k = 3 ∨ k = 4 ∨ k = 5 ∨ k = 6 ∨ k = 7 ∨ k = 8 ∨ k = 9 by omega) with rfl | rfl | rfl | rfl | rfl | rfl | rfl | rfl | rfl | rfl
    · have hb : acc + y < 18446744073709551616 := by have := HX.out; rw [hxe] at this; simpa using this
      have hac' : acc < 1 := by simpa using hac
      clear hac
      have HE : Hid (x = acc + y) := by show x = _; rw [hxe]; simp
      clear hxe
      obtain rfl : acc = 0 := by omega
      clear hy1
      by_cases hy : y < 128
      · obtain ⟨e1, e2⟩ := Pl.dec_last HD.out hy
        have hc := HC.out 0 (by omega)
        rw [e1, Nat.add_zero] at hc
        have hi : i < n := by have := HN.out; omega
        have hv : bits .or .u64 0 (IntKind.u64.wrap (IntKind.u64.wrap (bits .and .u8 (y : Int) 127))) = ((0 + y : Nat) : Int) := by
          simp (disch := omega) only [u8_and127, u64_wrap_id, u64_orv0]
          omega
        clear e1
        go_wp2
        go_ret3
        exact ⟨ret3 (by have := HE.out; omega) (by omega), rfl⟩
      · obtain ⟨e1, e2, hd2⟩ := Pl.dec_more HD.out (by omega)
        have hc := HC.out 0 (by omega)
        rw [e1, Nat.add_zero] at hc
        have hi : i < n := by have := HN.out; omega
        have HD2 : Hid (Pl.Dec x 1 (0 + y % 128 * 128 ^ 0) (y / 128)) := hd2
        clear hd2 e2 e1
        have hv : bits .or .u64 0 (IntKind.u64.wrap (IntKind.u64.wrap (bits .and .u8 ((y : Int) % 128 + 128) 127))) = (y : Int) % 128 := by
          simp (disch := omega) only [u8_and127, u64_wrap_id, u64_orv0]
          omega
        go_wp2
        exact ⟨⟨1, 0 + y % 128 * 128 ^ 0, y / 128, by omega, HD2.out, by go_num, by go_num, by go_num, by go_num⟩, by simp [intOf]⟩
    · have hb : acc + y * 128 < 18446744073709551616 := by have := HX.out; rw [hxe] at this; simpa using this
      have hac' : acc < 128 := by simpa using hac
      clear hac
      have HE : Hid (x = acc + y * 128) := by show x = _; rw [hxe]
      clear hxe
      have hy0 : 1 ≤ y := by rcases hy1 with h | h <;> omega
      clear hy1
      by_cases hy : y < 128
      · obtain ⟨e1, e2⟩ := Pl.dec_last HD.out hy
        have hc := HC.out 1 (by omega)
        rw [e1] at hc
        have hi : i + 1 < n := by have := HN.out; omega
        have hv : bits .or .u64 (acc : Int) (IntKind.u64.wrap (IntKind.u64.wrap (bits .and .u8 (y : Int) 127) * 128)) = ((acc + y * 128 : Nat) : Int) := by
          simp (disch := omega) only [u8_and127, u64_wrap_id, u64_orv7]
          omega
        clear e1
        go_wp2
        go_ret3
        exact ⟨ret3 (by have := HE.out; omega) (by omega), rfl⟩
      · obtain ⟨e1, e2, hd2⟩ := Pl.dec_more HD.out (by omega)
        have hc := HC.out 1 (by omega)
        rw [e1] at hc
        have hi : i + 1 < n := by have := HN.out; omega
        have HD2 : Hid (Pl.Dec x 2 (acc + y % 128 * 128 ^ 1) (y / 128)) := hd2
        clear hd2 e2 e1
        have hv : bits .or .u64 (acc : Int) (IntKind.u64.wrap (IntKind.u64.wrap (bits .and .u8 ((y : Int) % 128 + 128) 127) * 128)) = (acc : Int) + (y : Int) % 128 * 128 := by
          simp (disch := omega) only [u8_and127, u64_wrap_id, u64_orv7]
          omega
        go_wp2
        exact ⟨⟨2, acc + y % 128 * 128 ^ 1, y / 128, by omega, HD2.out, by go_num, by go_num, by go_num, by go_num⟩, by simp [intOf]⟩
    · have hb : acc + y * 16384 < 18446744073709551616 := by have := HX.out; rw [hxe] at this; simpa using this
      have hac' : acc < 16384 := by simpa using hac
      clear hac
      have HE : Hid (x = acc + y * 16384) := by show x = _; rw [hxe]
      clear hxe
      have hy0 : 1 ≤ y := by rcases hy1 with h | h <;> omega
      clear hy1
      by_cases hy : y < 128
      · obtain ⟨e1, e2⟩ := Pl.dec_last HD.out hy
        have hc := HC.out 2 (by omega)
        rw [e1] at hc
        have hi : i + 2 < n := by have := HN.out; omega
        have hv : bits .or .u64 (acc : Int) (IntKind.u64.wrap (IntKind.u64.wrap (bits .and .u8 (y : Int) 127) * 16384)) = ((acc + y * 16384 : Nat) : Int) := by
          simp (disch := omega) only [u8_and127, u64_wrap_id, u64_orv14]
          omega
        clear e1
        go_wp2
        go_ret3
        exact ⟨ret3 (by have := HE.out; omega) (by omega), rfl⟩
      · obtain ⟨e1, e2, hd2⟩ := Pl.dec_more HD.out (by omega)
        have hc := HC.out 2 (by omega)
        rw [e1] at hc
        have hi : i + 2 < n := by have := HN.out; omega
        have HD2 : Hid (Pl.Dec x 3 (acc + y % 128 * 128 ^ 2) (y / 128)) := hd2
        clear hd2 e2 e1
        have hv : bits .or .u64 (acc : Int) (IntKind.u64.wrap (IntKind.u64.wrap (bits .and .u8 ((y : Int) % 128 + 128) 127) * 16384)) = (acc : Int) + (y : Int) % 128 * 16384 := by
          simp (disch := omega) only [u8_and127, u64_wrap_id, u64_orv14]
          omega
        go_wp2
        exact ⟨⟨3, acc + y % 128 * 128 ^ 2, y / 128, by omega, HD2.out, by go_num, by go_num, by go_num, by go_num⟩, by simp [intOf]⟩
    · have hb : acc + y * 2097152 < 18446744073709551616 := by have := HX.out; rw [hxe] at this; simpa using this
      have hac' : acc < 2097152 := by simpa using hac
      clear hac
      have HE : Hid (x = acc + y * 2097152) := by show x = _; rw [hxe]
      clear hxe
      have hy0 : 1 ≤ y := by rcases hy1 with h | h <;> omega
      clear hy1
      by_cases hy : y < 128
      · obtain ⟨e1, e2⟩ := Pl.dec_last HD.out hy
        have hc := HC.out 3 (by omega)
        rw [e1] at hc
        have hi : i + 3 < n := by have := HN.out; omega
        have hv : bits .or .u64 (acc : Int) (IntKind.u64.wrap (IntKind.u64.wrap (bits .and .u8 (y : Int) 127) * 2097152)) = ((acc + y * 2097152 : Nat) : Int) := by
          simp (disch := omega) only [u8_and127, u64_wrap_id, u64_orv21]
          omega
        clear e1
        go_wp2
        go_ret3
        exact ⟨ret3 (by have := HE.out; omega) (by omega), rfl⟩
      · obtain ⟨e1, e2, hd2⟩ := Pl.dec_more HD.out (by omega)
        have hc := HC.out 3 (by omega)
        rw [e1] at hc
        have hi : i + 3 < n := by have := HN.out; omega
        have HD2 : Hid (Pl.Dec x 4 (acc + y % 128 * 128 ^ 3) (y / 128)) := hd2
        clear hd2 e2 e1
        have hv : bits .or .u64 (acc : Int) (IntKind.u64.wrap (IntKind.u64.wrap (bits .and .u8 ((y : Int) % 128 + 128) 127) * 2097152)) = (acc : Int) + (y : Int) % 128 * 2097152 := by
          simp (disch := omega) only [u8_and127, u64_wrap_id, u64_orv21]
          omega
        go_wp2
        exact ⟨⟨4, acc + y % 128 * 128 ^ 3, y / 128, by omega, HD2.out, by go_num, by go_num, by go_num, by go_num⟩, by simp [intOf]⟩
    · have hb : acc + y * 268435456 < 18446744073709551616 := by have := HX.out; rw [hxe] at this; simpa using this
      have hac' : acc < 268435456 := by simpa using hac
      clear hac
      have HE : Hid (x = acc + y * 268435456) := by show x = _; rw [hxe]
      clear hxe
      have hy0 : 1 ≤ y := by rcases hy1 with h | h <;> omega
      clear hy1
      by_cases hy : y < 128
      · obtain ⟨e1, e2⟩ := Pl.dec_last HD.out hy
        have hc := HC.out 4 (by omega)
        rw [e1] at hc
        have hi : i + 4 < n := by have := HN.out; omega
        have hv : bits .or .u64 (acc : Int) (IntKind.u64.wrap (IntKind.u64.wrap (bits .and .u8 (y : Int) 127) * 268435456)) = ((acc + y * 268435456 : Nat) : Int) := by
          simp (disch := omega) only [u8_and127, u64_wrap_id, u64_orv28]
          omega
        clear e1
        go_wp2
        go_ret3
        exact ⟨ret3 (by have := HE.out; omega) (by omega), rfl⟩
      · obtain ⟨e1, e2, hd2⟩ := Pl.dec_more HD.out (by omega)
        have hc := HC.out 4 (by omega)
        rw [e1] at hc
        have hi : i + 4 < n := by have := HN.out; omega
        have HD2 : Hid (Pl.Dec x 5 (acc + y % 128 * 128 ^ 4) (y / 128)) := hd2
        clear hd2 e2 e1
        have hv : bits .or .u64 (acc : Int) (IntKind.u64.wrap (IntKind.u64.wrap (bits .and .u8 ((y : Int) % 128 + 128) 127) * 268435456)) = (acc : Int) + (y : Int) % 128 * 268435456 := by
          simp (disch := omega) only [u8_and127, u64_wrap_id, u64_orv28]
          omega
        go_wp2
        exact ⟨⟨5, acc + y % 128 * 128 ^ 4, y / 128, by omega, HD2.out, by go_num, by go_num, by go_num, by go_num⟩, by simp [intOf]⟩
    · have hb : acc + y * 34359738368 < 18446744073709551616 := by have := HX.out; rw [hxe] at this; simpa using this
      have hac' : acc < 34359738368 := by simpa using hac
      clear hac
      have HE : Hid (x = acc + y * 34359738368) := by show x = _; rw [hxe]
      clear hxe
      have hy0 : 1 ≤ y := by rcases hy1 with h | h <;> omega
      clear hy1
      by_cases hy : y < 128
      · obtain ⟨e1, e2⟩ := Pl.dec_last HD.out hy
        have hc := HC.out 5 (by omega)
        rw [e1] at hc
        have hi : i + 5 < n := by have := HN.out; omega
        have hv : bits .or .u64 (acc : Int) (IntKind.u64.wrap (IntKind.u64.wrap (bits .and .u8 (y : Int) 127) * 34359738368)) = ((acc + y * 34359738368 : Nat) : Int) := by
          simp (disch := omega) only [u8_and127, u64_wrap_id, u64_orv35]
          omega
        clear e1
        go_wp2
        go_ret3
        exact ⟨ret3 (by have := HE.out; omega) (by omega), rfl⟩
      · obtain ⟨e1, e2, hd2⟩ := Pl.dec_more HD.out (by omega)
        have hc := HC.out 5 (by omega)
        rw [e1] at hc
        have hi : i + 5 < n := by have := HN.out; omega
        have HD2 : Hid (Pl.Dec x 6 (acc + y % 128 * 128 ^ 5) (y / 128)) := hd2
        clear hd2 e2 e1
        have hv : bits .or .u64 (acc : Int) (IntKind.u64.wrap (IntKind.u64.wrap (bits .and .u8 ((y : Int) % 128 + 128) 127) * 34359738368)) = (acc : Int) + (y : Int) % 128 * 34359738368 := by
          simp (disch := omega) only [u8_and127, u64_wrap_id, u64_orv35]
          omega
        go_wp2
        exact ⟨⟨6, acc + y % 128 * 128 ^ 5, y / 128, by omega, HD2.out, by go_num, by go_num, by go_num, by go_num⟩, by simp [intOf]⟩
    · have hb : acc + y * 4398046511104 < 18446744073709551616 := by have := HX.out; rw [hxe] at this; simpa using this
      have hac' : acc < 4398046511104 := by simpa using hac
      clear hac
      have HE : Hid (x = acc + y * 4398046511104) := by show x = _; rw [hxe]
      clear hxe
      have hy0 : 1 ≤ y := by rcases hy1 with h | h <;> omega
      clear hy1
      by_cases hy : y < 128
      · obtain ⟨e1, e2⟩ := Pl.dec_last HD.out hy
        have hc := HC.out 6 (by omega)
        rw [e1] at hc
        have hi : i + 6 < n := by have := HN.out; omega
        have hv : bits .or .u64 (acc : Int) (IntKind.u64.wrap (IntKind.u64.wrap (bits .and .u8 (y : Int) 127) * 4398046511104)) = ((acc + y * 4398046511104 : Nat) : Int) := by
          simp (disch := omega) only [u8_and127, u64_wrap_id, u64_orv42]
          omega
        clear e1
        go_wp2
        go_ret3
        exact ⟨ret3 (by have := HE.out; omega) (by omega), rfl⟩
      · obtain ⟨e1, e2, hd2⟩ := Pl.dec_more HD.out (by omega)
        have hc := HC.out 6 (by omega)
        rw [e1] at hc
        have hi : i + 6 < n := by have := HN.out; omega
        have HD2 : Hid (Pl.Dec x 7 (acc + y % 128 * 128 ^ 6) (y / 128)) := hd2
        clear hd2 e2 e1
        have hv : bits .or .u64 (acc : Int) (IntKind.u64.wrap (IntKind.u64.wrap (bits .and .u8 ((y : Int) % 128 + 128) 127) * 4398046511104)) = (acc : Int) + (y : Int) % 128 * 4398046511104 := by
          simp (disch := omega) only [u8_and127, u64_wrap_id, u64_orv42]
          omega
        go_wp2
        exact ⟨⟨7, acc + y % 128 * 128 ^ 6, y / 128, by omega, HD2.out, by go_num, by go_num, by go_num, by go_num⟩, by simp [intOf]⟩
    · have hb : acc + y * 562949953421312 < 18446744073709551616 := by have := HX.out; rw [hxe] at this; simpa using this
      have hac' : acc < 562949953421312 := by simpa using hac
      clear hac
      have HE : Hid (x = acc + y * 562949953421312) := by show x = _; rw [hxe]
      clear hxe
      have hy0 : 1 ≤ y := by rcases hy1 with h | h <;> omega
      clear hy1
      by_cases hy : y < 128
      · obtain ⟨e1, e2⟩ := Pl.dec_last HD.out hy
        have hc := HC.out 7 (by omega)
        rw [e1] at hc
        have hi : i + 7 < n := by have := HN.out; omega
        have hv : bits .or .u64 (acc : Int) (IntKind.u64.wrap (IntKind.u64.wrap (bits .and .u8 (y : Int) 127) * 562949953421312)) = ((acc + y * 562949953421312 : Nat) : Int) := by
          simp (disch := omega) only [u8_and127, u64_wrap_id, u64_orv49]
          omega
        clear e1
        go_wp2
        go_ret3
        exact ⟨ret3 (by have := HE.out; omega) (by omega), rfl⟩
      · obtain ⟨e1, e2, hd2⟩ := Pl.dec_more HD.out (by omega)
        have hc := HC.out 7 (by omega)
        rw [e1] at hc
        have hi : i + 7 < n := by have := HN.out; omega
        have HD2 : Hid (Pl.Dec x 8 (acc + y % 128 * 128 ^ 7) (y / 128)) := hd2
        clear hd2 e2 e1
        have hv : bits .or .u64 (acc : Int) (IntKind.u64.wrap (IntKind.u64.wrap (bits .and .u8 ((y : Int) % 128 + 128) 127) * 562949953421312)) = (acc : Int) + (y : Int) % 128 * 562949953421312 := by
          simp (disch := omega) only [u8_and127, u64_wrap_id, u64_orv49]
          omega
        go_wp2
        exact ⟨⟨8, acc + y % 128 * 128 ^ 7, y / 128, by omega, HD2.out, by go_num, by go_num, by go_num, by go_num⟩, by simp [intOf]⟩
    · have hb : acc + y * 72057594037927936 < 18446744073709551616 := by have := HX.out; rw [hxe] at this; simpa using this
      have hac' : acc < 72057594037927936 := by simpa using hac
      clear hac
      have HE : Hid (x = acc + y * 72057594037927936) := by show x = _; rw [hxe]
      clear hxe
      have hy0 : 1 ≤ y := by rcases hy1 with h | h <;> omega
      clear hy1
      by_cases hy : y < 128
      · obtain ⟨e1, e2⟩ := Pl.dec_last HD.out hy
        have hc := HC.out 8 (by omega)
        rw [e1] at hc
        have hi : i + 8 < n := by have := HN.out; omega
        have hv : bits .or .u64 (acc : Int) (IntKind.u64.wrap (IntKind.u64.wrap (bits .and .u8 (y : Int) 127) * 72057594037927936)) = ((acc + y * 72057594037927936 : Nat) : Int) := by
          simp (disch := omega) only [u8_and127, u64_wrap_id, u64_orv56]
          omega
        clear e1
        go_wp2
        go_ret3
        exact ⟨ret3 (by have := HE.out; omega) (by omega), rfl⟩
      · obtain ⟨e1, e2, hd2⟩ := Pl.dec_more HD.out (by omega)
        have hc := HC.out 8 (by omega)
        rw [e1] at hc
        have hi : i + 8 < n := by have := HN.out; omega
        have HD2 : Hid (Pl.Dec x 9 (acc + y % 128 * 128 ^ 8) (y / 128)) := hd2
        clear hd2 e2 e1
        have hv : bits .or .u64 (acc : Int) (IntKind.u64.wrap (IntKind.u64.wrap (bits .and .u8 ((y : Int) % 128 + 128) 127) * 72057594037927936)) = (acc : Int) + (y : Int) % 128 * 72057594037927936 := by
          simp (disch := omega) only [u8_and127, u64_wrap_id, u64_orv56]
          omega
        go_wp2
        exact ⟨⟨9, acc + y % 128 * 128 ^ 8, y / 128, by omega, HD2.out, by go_num, by go_num, by go_num, by go_num⟩, by simp [intOf]⟩
    · have hb : acc + y * 9223372036854775808 < 18446744073709551616 := by have := HX.out; rw [hxe] at this; simpa using this
      have hac' : acc < 9223372036854775808 := by simpa using hac
      clear hac
      have HE : Hid (x = acc + y * 9223372036854775808) := by show x = _; rw [hxe]
      clear hxe
      have hy0 : 1 ≤ y := by rcases hy1 with h | h <;> omega
      clear hy1
      by_cases hy : y < 128
      · obtain ⟨e1, e2⟩ := Pl.dec_last HD.out hy
        have hc := HC.out 9 (by omega)
        rw [e1] at hc
        have hi : i + 9 < n := by have := HN.out; omega
        have hv : bits .or .u64 (acc : Int) (IntKind.u64.wrap (IntKind.u64.wrap (bits .and .u8 (y : Int) 127) * 9223372036854775808)) = ((acc + y * 9223372036854775808 : Nat) : Int) := by
          simp (disch := omega) only [u8_and127, u64_wrap_id, u64_orv63]
          omega
        clear e1
        have hy9 : y ≤ 1 := by omega
        go_wp2
        go_ret3
        exact ⟨ret3 (by have := HE.out; omega) (by omega), rfl⟩
      · omega
end Go.Proofs.Qxb6616714a
