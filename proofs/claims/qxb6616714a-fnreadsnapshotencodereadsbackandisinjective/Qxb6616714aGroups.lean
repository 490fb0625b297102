/-
  zzGroups(v): how many bytes the varint of v takes.
-/
import Derived.Test.Qxb6616714aProg
import Derived.Test.Qxb6616714aPlain
import Derived.WalkKit
import Derived.WalkLawsBesides
namespace Go.Proofs.Qxb6616714a
open Go.RowKit

theorem ret_int {k : IntKind} {a b : Int} (h : a = b) : Ending.returned (.int k a) = .returned (.int k b) := by rw [h]

/-- what the loop of zzGroups keeps -/
def Lo (k v : Nat) : Prop := k = 1 ∨ 128 ^ (k - 1) ≤ v

theorem grp_up {v : Nat} {N : Int} (M : Nat) (hM : N = (M : Int)) (h : ((v : Int) / N != 0) = true) : M ≤ v := by
  subst hM
  rw [bne_iff_ne] at h
  apply Nat.le_of_not_lt
  intro hlt
  exact h (Int.ediv_eq_zero_of_lt (by omega) (by omega))

theorem grp_no {v : Nat} {N : Int} (M : Nat) (hM : N = (M : Int)) (hpos : 0 < M) (h : ((v : Int) / N != 0) = false) : v < M := by
  subst hM
  rw [bne_eq_false_iff_eq] at h
  have h2 : v / M = 0 := by exact_mod_cast h
  exact (Nat.div_eq_zero_iff_lt hpos).1 h2

set_option maxHeartbeats 1000000 in
set_option maxRecDepth 100000 in
theorem groups_any (v : Nat) (hv : v < 18446744073709551616) (w : World) :
    Calls Try.prog 19 #[.int .u64 (v : Int)] w fun e w' => e = .returned (.int .i64 ((Lib.uvarint v).length : Int)) ∧ w = w' := by
  have HV : Hid (v < 18446744073709551616) := hv
  clear hv
  go_enter Try.func19, Try.ntmps19
  go_wp2
  go_loop [3] (fun t => ∃ k : Nat, 1 ≤ k ∧ k ≤ 10 ∧ t = .int .i64 (k : Int) ∧ (k = 1 ∨ 128 ^ (k - 1) ≤ v)) (fun t => 10 - (intOf t).toNat)
  case atStart => exact ⟨1, by omega, by omega, rfl, Or.inl rfl⟩
  case round =>
    obtain ⟨k, hk1, hk2, rfl, hlo⟩ := hrel
    have HL : Lo k v := hlo
    clear hlo
    rcases (show k = 1 ∨ k = 2 ∨ k = 3 ∨ k = 4 ∨ k = 5 ∨ k = 6 ∨ k = 7 ∨ k = 8 ∨ k = 9 ∨ k = 10 by omega) with rfl | rfl | rfl | rfl | rfl | rfl | rfl | rfl | rfl | rfl
    · go_wp2
      · exact ⟨⟨2, by omega, by omega, rfl, Or.inr (grp_up (N := 128) (128 ^ 1) (by decide) (by assumption))⟩, by simp [intOf]⟩
      · have hno := grp_no (v := v) (N := 128) (128 ^ 1) (by decide) (by decide) (by assumption)
        go_ret
        exact ⟨ret_int (by rw [Pl.len_eq 1 v (by omega) hno HL]; rfl), rfl⟩
    · go_wp2
      · exact ⟨⟨3, by omega, by omega, rfl, Or.inr (grp_up (N := 16384) (128 ^ 2) (by decide) (by assumption))⟩, by simp [intOf]⟩
      · have hno := grp_no (v := v) (N := 16384) (128 ^ 2) (by decide) (by decide) (by assumption)
        go_ret
        exact ⟨ret_int (by rw [Pl.len_eq 2 v (by omega) hno HL]; rfl), rfl⟩
    · go_wp2
      · exact ⟨⟨4, by omega, by omega, rfl, Or.inr (grp_up (N := 2097152) (128 ^ 3) (by decide) (by assumption))⟩, by simp [intOf]⟩
      · have hno := grp_no (v := v) (N := 2097152) (128 ^ 3) (by decide) (by decide) (by assumption)
        go_ret
        exact ⟨ret_int (by rw [Pl.len_eq 3 v (by omega) hno HL]; rfl), rfl⟩
    · go_wp2
      · exact ⟨⟨5, by omega, by omega, rfl, Or.inr (grp_up (N := 268435456) (128 ^ 4) (by decide) (by assumption))⟩, by simp [intOf]⟩
      · have hno := grp_no (v := v) (N := 268435456) (128 ^ 4) (by decide) (by decide) (by assumption)
        go_ret
        exact ⟨ret_int (by rw [Pl.len_eq 4 v (by omega) hno HL]; rfl), rfl⟩
    · go_wp2
      · exact ⟨⟨6, by omega, by omega, rfl, Or.inr (grp_up (N := 34359738368) (128 ^ 5) (by decide) (by assumption))⟩, by simp [intOf]⟩
      · have hno := grp_no (v := v) (N := 34359738368) (128 ^ 5) (by decide) (by decide) (by assumption)
        go_ret
        exact ⟨ret_int (by rw [Pl.len_eq 5 v (by omega) hno HL]; rfl), rfl⟩
    · go_wp2
      · exact ⟨⟨7, by omega, by omega, rfl, Or.inr (grp_up (N := 4398046511104) (128 ^ 6) (by decide) (by assumption))⟩, by simp [intOf]⟩
      · have hno := grp_no (v := v) (N := 4398046511104) (128 ^ 6) (by decide) (by decide) (by assumption)
        go_ret
        exact ⟨ret_int (by rw [Pl.len_eq 6 v (by omega) hno HL]; rfl), rfl⟩
    · go_wp2
      · exact ⟨⟨8, by omega, by omega, rfl, Or.inr (grp_up (N := 562949953421312) (128 ^ 7) (by decide) (by assumption))⟩, by simp [intOf]⟩
      · have hno := grp_no (v := v) (N := 562949953421312) (128 ^ 7) (by decide) (by decide) (by assumption)
        go_ret
        exact ⟨ret_int (by rw [Pl.len_eq 7 v (by omega) hno HL]; rfl), rfl⟩
    · go_wp2
      · exact ⟨⟨9, by omega, by omega, rfl, Or.inr (grp_up (N := 72057594037927936) (128 ^ 8) (by decide) (by assumption))⟩, by simp [intOf]⟩
      · have hno := grp_no (v := v) (N := 72057594037927936) (128 ^ 8) (by decide) (by decide) (by assumption)
        go_ret
        exact ⟨ret_int (by rw [Pl.len_eq 8 v (by omega) hno HL]; rfl), rfl⟩
    · go_wp2
      · exact ⟨⟨10, by omega, by omega, rfl, Or.inr (grp_up (N := 9223372036854775808) (128 ^ 9) (by decide) (by assumption))⟩, by simp [intOf]⟩
      · have hno := grp_no (v := v) (N := 9223372036854775808) (128 ^ 9) (by decide) (by decide) (by assumption)
        go_ret
        exact ⟨ret_int (by rw [Pl.len_eq 9 v (by omega) hno HL]; rfl), rfl⟩
    · go_wp2
      go_ret
      exact ⟨ret_int (by rw [Pl.len_eq 10 v (by omega) (Nat.lt_of_lt_of_le HV.out (by decide)) HL]; rfl), rfl⟩
end Go.Proofs.Qxb6616714a
