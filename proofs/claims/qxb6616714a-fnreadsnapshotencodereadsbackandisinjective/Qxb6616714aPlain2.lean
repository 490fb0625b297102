/-
  PLAIN LAWS on the varint's bytes, for the reader: no Go in sight.
-/
import Derived.Lib.Varint
namespace Go.Proofs.Qxb6616714a.Pl
open Go.Lib

/-- byte j of a text, as a number -/
def num (l : List UInt8) (j : Nat) : Nat := (l.getD j 0).toNat

/-- WHAT A READER OF x's VARINT HAS BEHIND k BYTES: acc is read, y is to come. -/
def Dec (x k acc y : Nat) : Prop := x = acc + y * 128 ^ k ∧ acc < 128 ^ k ∧ (uvarint x).drop k = uvarint y ∧ (k = 0 ∨ 1 ≤ y)

theorem dec_start (x : Nat) : Dec x 0 0 x := ⟨by simp, by simp, rfl, .inl rfl⟩

theorem num_drop (l : List UInt8) (k : Nat) (b : UInt8) (t : List UInt8) (h : l.drop k = b :: t) : num l k = b.toNat ∧ k < l.length ∧ l.drop (k + 1) = t := by
  have hk : k < l.length := by
    apply Nat.lt_of_not_le
    intro hle
    rw [List.drop_eq_nil_of_le hle] at h
    cases h
  rw [List.drop_eq_getElem_cons hk] at h
  injection h with h1 h2
  refine ⟨?_, hk, h2⟩
  unfold num
  rw [List.getD_eq_getElem?_getD, List.getElem?_eq_getElem hk, Option.getD_some, h1]

theorem toUInt8_toNat (n : Nat) (h : n < 256) : n.toUInt8.toNat = n := by
  simp [Nat.mod_eq_of_lt h]

theorem dec_last {x k acc y : Nat} (h : Dec x k acc y) (hy : y < 128) : num (uvarint x) k = y ∧ (uvarint x).length = k + 1 := by
  obtain ⟨_, _, hd, _⟩ := h
  rw [uvarint_small hy] at hd
  obtain ⟨h1, h2, h3⟩ := num_drop _ _ _ _ hd
  refine ⟨h1.trans (toUInt8_toNat y (by omega)), ?_⟩
  have := congrArg List.length h3
  simp only [List.length_drop, List.length_nil] at this
  omega

theorem dec_more {x k acc y : Nat} (h : Dec x k acc y) (hy : 128 ≤ y) : num (uvarint x) k = y % 128 + 128 ∧ k + 1 < (uvarint x).length ∧ Dec x (k + 1) (acc + y % 128 * 128 ^ k) (y / 128) := by
  obtain ⟨hx, ha, hd, _⟩ := h
  rw [uvarint_big hy] at hd
  obtain ⟨h1, h2, h3⟩ := num_drop _ _ _ _ hd
  have hpow : 128 ^ (k + 1) = 128 ^ k * 128 := Nat.pow_succ _ _
  refine ⟨h1.trans (toUInt8_toNat _ (by omega)), ?_, ?_, ?_, h3, .inr (by omega)⟩
  · have := congrArg List.length h3
    have hp := uvarint_pos (y / 128)
    simp only [List.length_drop] at this
    omega
  · rw [hpow, hx]
    have hy2 : y * 128 ^ k = y % 128 * 128 ^ k + y / 128 * (128 ^ k * 128) := by
      rw [Nat.mul_comm (128 ^ k) 128, ← Nat.mul_assoc, ← Nat.add_mul]
      congr 1
      omega
    omega
  · rw [hpow]
    have hm : y % 128 < 128 := Nat.mod_lt _ (by omega)
    have : y % 128 * 128 ^ k ≤ 127 * 128 ^ k := Nat.mul_le_mul_right _ (by omega)
    omega

/-- No varint is a proper head of another. -/
theorem uv_inj : ∀ (x y : Nat) (r s : List UInt8), uvarint x ++ r = uvarint y ++ s → x = y ∧ r = s := by
  intro x
  induction x using Nat.strongRecOn with
  | ind x ih =>
    intro y r s h
    by_cases hx : x < 128
    · rw [uvarint_small hx] at h
      by_cases hy : y < 128
      · rw [uvarint_small hy] at h
        injection h with h1 h2
        have h3 := congrArg UInt8.toNat h1
        rw [toUInt8_toNat x (by omega), toUInt8_toNat y (by omega)] at h3
        exact ⟨h3, h2⟩
      · rw [uvarint_big (by omega)] at h
        injection h with h1 h2
        have h3 := congrArg UInt8.toNat h1
        rw [toUInt8_toNat x (by omega), toUInt8_toNat _ (by omega)] at h3
        omega
    · rw [uvarint_big (by omega)] at h
      by_cases hy : y < 128
      · rw [uvarint_small hy] at h
        injection h with h1 h2
        have h3 := congrArg UInt8.toNat h1
        rw [toUInt8_toNat y (by omega), toUInt8_toNat _ (by omega)] at h3
        omega
      · rw [uvarint_big (x := y) (by omega)] at h
        injection h with h1 h2
        have h3 := congrArg UInt8.toNat h1
        rw [toUInt8_toNat _ (by omega), toUInt8_toNat _ (by omega)] at h3
        obtain ⟨h4, h5⟩ := ih (x / 128) (by omega) (y / 128) r s h2
        exact ⟨by omega, h5⟩

end Go.Proofs.Qxb6616714a.Pl
