/-
  PLAIN LAWS on the varint's bytes: no Go in sight.
-/
import Derived.Lib.Varint
namespace Go.Proofs.Qxb6616714a.Pl
open Go.Lib

theorem len_eq : ∀ (k x : Nat), 1 ≤ k → x < 128 ^ k → (k = 1 ∨ 128 ^ (k - 1) ≤ x) → (uvarint x).length = k
  | 0, _, h, _, _ => absurd h (by omega)
  | 1, x, _, h, _ => by rw [uvarint_small (by simpa using h)]; rfl
  | k + 2, x, _, h, h2 => by
    have h3 : 128 ^ (k + 1) ≤ x := by
      rcases h2 with h2 | h2
      · omega
      · exact h2
    have hp : 1 ≤ 128 ^ k := Nat.pow_pos (by omega)
    have h4 : 128 ≤ x := by rw [Nat.pow_succ] at h3; omega
    rw [uvarint_big h4, List.length_cons]
    have h5 : x / 128 < 128 ^ (k + 1) := by
      rw [Nat.pow_succ] at h; exact Nat.div_lt_of_lt_mul (by rw [Nat.mul_comm]; exact h)
    have h6 : 128 ^ k ≤ x / 128 := by
      rw [Nat.le_div_iff_mul_le (by omega)]; rw [Nat.pow_succ] at h3; exact h3
    rw [len_eq (k + 1) (x / 128) (by omega) h5 (Or.inr h6)]

end Go.Proofs.Qxb6616714a.Pl
