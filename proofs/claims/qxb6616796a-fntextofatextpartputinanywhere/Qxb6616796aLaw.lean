/-
  FnTextOfATextPartPutInAnywhere at every input.
-/
import Derived.Test.Qxb6616796aMain
namespace Go.Proofs.Qxb6616796a
open Go.RowKit

theorem elem22 : Try.prog.elem 22 = 53 := by kernel_rfl
theorem under22 : Try.prog.underlying 22 = some (.slice (Try.prog.elem 22)) := by rw [elem22]; exact Try.underlying22
theorem add_zero (x : Addr) : x.add 0 = x := by simp [Addr.add]
theorem add_none (b o k : Nat) : (⟨b, o, none⟩ : Addr).add k = ⟨b, o + k, none⟩ := by unfold Addr.add; split <;> simp_all

def tailAt (a : Option Addr) (cap i : Nat) : Option Addr := if cap = i then a else a.map (·.add (i * 9))

theorem cut_of {a : Option Addr} {n cap i : Nat} {ps : Nat → LP} {w : World} (hi : i ≤ n) (hn : n ≤ 65536) (hc : n ≤ cap) (hp : PartsAt w a n ps) : Cut a n cap i (tailAt a cap i) ps w := by
  refine ⟨hi, hn, ?_, ?_, fun w => ?_, fun w => ?_⟩
  · rcases hp with h | ⟨b, o, h1, h2⟩
    · exact .inl (by omega)
    · exact .inr ⟨b, o, h1, fun j hj => h2 j (by omega)⟩
  · by_cases h0 : n - i = 0
    · exact .inl h0
    · rcases hp with h | ⟨b, o, h1, h2⟩
      · omega
      · refine .inr ⟨b, o + i * 9, ?_, fun j hj => ?_⟩
        · unfold tailAt
          rw [if_neg (by omega), h1]
          show some ((⟨b, o, none⟩ : Addr).add (i * 9)) = _
          rw [add_none]
        · have := h2 (i + j) (by omega)
          rw [show o + i * 9 + j * 9 = o + (i + j) * 9 by omega]
          exact this
  · rw [run_slice_h (P := Try.prog) w 22 a n cap under22 .i64 (i : Int) (by omega) (by omega), elem22, Try.sizeOf53]
    simp only [Result.andThen, sliced]
    congr 2
    · cases a with
      | none => simp
      | some x => simp [add_zero]
  · rw [run_slice_l (P := Try.prog) w 22 a n cap under22 .i64 (i : Int) (by omega) (by omega), elem22, Try.sizeOf53]
    simp only [Result.andThen, sliced, Int.toNat_natCast]
    rfl

set_option maxHeartbeats 1000000 in
set_option maxRecDepth 100000 in
theorem law_any (a : Option Addr) (n cap : Nat) (i : Int) (t : ByteArray) (ps : Nat → LP) (w : World) (hw : PartsAt w a n ps) (hn : n ≤ 9223372036854775807) (hc : n ≤ cap) (ht : t.size ≤ 9223372036854775807) :
    Calls Try.prog 4 #[.slice a n cap, .int .i64 i, .string t] w fun e w' => e = .returned (.bool true) ∧ Below w.heap.size w w' := by
  have HW : Hid (PartsAt w a n ps) := hw
  clear hw
  by_cases h1 : 65536 < (n : Int)
  · go_enter Try.func4, Try.ntmps4
    go_wp2_with fail
    refine (zzbytes_any a n cap (by omega) i t (by omega) ps _ HW.out).mono ?_
    rintro e w' ⟨⟨r, rfl⟩, rfl⟩
    cases r
    · go_wp2
      go_ret
      exact ⟨rfl, Below.refl _ _⟩
    · go_wp2
      go_ret
      exact ⟨rfl, Below.refl _ _⟩
  by_cases h2 : 1048576 < (t.size : Int)
  · go_enter Try.func4, Try.ntmps4
    go_wp2_with fail
    refine (zzbytes_any a n cap (by omega) i t (by omega) ps _ HW.out).mono ?_
    rintro e w' ⟨⟨r, rfl⟩, rfl⟩
    cases r
    · go_wp2
      go_ret
      exact ⟨rfl, Below.refl _ _⟩
    · go_wp2
      go_ret
      exact ⟨rfl, Below.refl _ _⟩
  by_cases h3 : 0 ≤ i ∧ i ≤ n
  · obtain ⟨k, rfl⟩ := Int.eq_ofNat_of_zero_le h3.1
    exact main_any a n cap k t _ ps w HW.out (cut_of (by omega) (by omega) hc HW.out) (by omega)
  · have h4 : i < 0 ∨ (0 ≤ i ∧ (n : Int) < i) := by omega
    clear h3
    rcases h4 with h4 | ⟨h4, h5⟩
    all_goals
      go_enter Try.func4, Try.ntmps4
      go_wp2_with fail
      refine (zzbytes_any a n cap (by omega) i t (by omega) ps _ HW.out).mono ?_
      rintro e w' ⟨⟨r, rfl⟩, rfl⟩
      cases r
      · go_wp2
        go_ret
        exact ⟨rfl, Below.refl _ _⟩
      go_wp2_with fail
      refine (addlen_ex _ _ (by omega) (by omega) (by omega) _).mono ?_
      rintro e w' ⟨r1, rfl, ra1, rb1, RC1, rfl⟩
      go_wp2_with fail
      refine (partsbytes_any _ (by omega) (by omega) a n cap (by omega) ps _ HW.out).mono ?_
      rintro e w' ⟨r2, rfl, RC2, rfl⟩
      clear RC1 RC2
      by_cases hov : 1048576 < r2
      · go_wp2
        go_ret
        exact ⟨rfl, Below.refl _ _⟩
      · go_wp2
        go_ret
        exact ⟨rfl, Below.refl _ _⟩
end Go.Proofs.Qxb6616796a
