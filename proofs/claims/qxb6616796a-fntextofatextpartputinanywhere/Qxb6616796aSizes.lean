/-
  addLen, partsBytes, zzBytes: the walks.
-/
import Derived.Test.Qxb6616796aProg
import Derived.Test.Qxb6616796aMem
namespace Go.Proofs.Qxb6616796a
open Go.RowKit

/-- addLen, saturating just above the limit -/
def addL (a b : Int) : Int := if 1048576 < a ∨ 1048576 - a < b then 1048577 else a + b
theorem addL_lo {a b : Int} (ha : 0 ≤ a) (hb : 0 ≤ b) : 0 ≤ addL a b := by unfold addL; split <;> omega
theorem addL_hi {a b : Int} : addL a b ≤ 1048577 := by unfold addL; split <;> omega
theorem addL_eq {a b : Int} (h : addL a b ≤ 1048576) : addL a b = a + b ∧ a ≤ 1048576 := by unfold addL at h ⊢; split at h <;> rename_i h1 <;> simp only [h1] <;> simp <;> omega
theorem ret_int {k : IntKind} {a b : Int} (h : a = b) : Ending.returned (.int k a) = .returned (.int k b) := by rw [h]

set_option maxHeartbeats 400000 in
set_option maxRecDepth 100000 in
theorem addlen_any (a b : Int) (ha : 0 ≤ a) (ha2 : a ≤ 1048577) (hb : 0 ≤ b) (w : World) :
    Calls Try.prog 12 #[.int .i64 a, .int .i64 b] w fun e w' => e = .returned (.int .i64 (addL a b)) ∧ w = w' := by
  by_cases h1 : 1048576 < a
  · have HE : Hid (1048577 = addL a b) := by show _ = _; unfold addL; rw [if_pos (.inl h1)]
    go_enter Try.func12, Try.ntmps12
    go_wp2
    go_ret
    exact ⟨ret_int HE.out, rfl⟩
  · by_cases h2 : 1048576 - a < b
    · have HE : Hid (1048577 = addL a b) := by show _ = _; unfold addL; rw [if_pos (.inr h2)]
      go_enter Try.func12, Try.ntmps12
      go_wp2
      go_ret
      exact ⟨ret_int HE.out, rfl⟩
    · have HE : Hid (a + b = addL a b) := by show _ = _; unfold addL; rw [if_neg (by omega)]
      go_enter Try.func12, Try.ntmps12
      go_wp2
      go_ret
      exact ⟨ret_int HE.out, rfl⟩

theorem addlen_ex (a b : Int) (ha : 0 ≤ a) (ha2 : a ≤ 1048577) (hb : 0 ≤ b) (w : World) :
    Calls Try.prog 12 #[.int .i64 a, .int .i64 b] w fun e w' => ∃ r, e = .returned (.int .i64 r) ∧ 0 ≤ r ∧ r ≤ 1048577 ∧ Hid (r ≤ 1048576 → r = a + b ∧ a ≤ 1048576) ∧ w = w' := by
  refine (addlen_any a b ha ha2 hb w).mono ?_
  rintro e w' ⟨rfl, rfl⟩
  exact ⟨_, rfl, addL_lo ha hb, addL_hi, addL_eq, rfl⟩

/-- the lengths of the first n texts, summed -/
def txSum (ps : Nat → LP) : Nat → Nat
  | 0 => 0
  | n + 1 => txSum ps n + (ps n).tx.size

set_option maxHeartbeats 2000000 in
set_option maxRecDepth 100000 in
theorem partsbytes_any (t0 : Int) (h0 : 0 ≤ t0) (h1 : t0 ≤ 1048577) (a : Option Addr) (n cap : Nat) (hn : n ≤ 65536) (ps : Nat → LP) (w : World) (hp : PartsAt w a n ps) :
    Calls Try.prog 7 #[.int .i64 t0, .slice a n cap] w fun e w' => ∃ r : Int, e = .returned (.int .i64 r) ∧ (r ≤ 1048576 → t0 + txSum ps n ≤ r ∧ Fit ps n) ∧ w = w' := by
  have HP : Hid (PartsAt w a n ps) := hp
  clear hp
  go_enter Try.func7, Try.ntmps7
  go_wp2
  go_loop [0, 5] (fun v t => ∃ (k : Nat) (z : Int), k ≤ n ∧ t = .int .i64 (k : Int) ∧ v = .int .i64 z ∧ 0 ≤ z ∧ z ≤ 1048577 ∧ Hid (z ≤ 1048576 → t0 + txSum ps k ≤ z ∧ Fit ps k)) (fun _ t => n - (intOf t).toNat)
  case atStart => exact ⟨0, t0, by omega, rfl, rfl, h0, h1, fun _ => ⟨by simp [txSum], fun j hj => absurd hj (by omega)⟩⟩
  case round =>
    obtain ⟨k, z, hk, rfl, rfl, hz0, hz1, HZ⟩ := hrel
    by_cases hlt : k < n
    · have i1 : (k : Int) < (n : Int) := by omega
      rcases HP.out with h | ⟨b, o, ha, hpa⟩
      · omega
      have q := hpa k hlt
      subst ha
      clear hpa
      have c0 := q.c0
      have c1 := q.c1
      have c2 := q.c2
      have c3 := q.c3
      have c4 := q.c4
      have c5 := q.c5
      have c6 := q.c6
      have c7 := q.c7
      have c8 := q.c8
      have hap := q.ap
      go_wp2_with fail
      refine (addlen_ex _ _ (by omega) (by omega) (by omega) _).mono ?_
      rintro e w' ⟨r1, rfl, a1, b1, C1, rfl⟩
      go_wp2_with fail
      refine (addlen_ex _ _ (by omega) (by omega) (by omega) _).mono ?_
      rintro e w' ⟨r2, rfl, a2, b2, C2, rfl⟩
      go_wp2_with fail
      refine (addlen_ex _ _ (by omega) (by omega) (by omega) _).mono ?_
      rintro e w' ⟨r3, rfl, a3, b3, C3, rfl⟩
      go_wp2_with fail
      refine (addlen_ex _ _ (by omega) (by omega) (by omega) _).mono ?_
      rintro e w' ⟨r4, rfl, a4, b4, C4, rfl⟩
      go_wp2_with fail
      refine (addlen_ex _ _ (by omega) (by omega) (by omega) _).mono ?_
      rintro e w' ⟨r5, rfl, a5, b5, C5, rfl⟩
      go_wp2_with fail
      refine (addlen_ex _ _ (by omega) (by omega) (by omega) _).mono ?_
      rintro e w' ⟨r6, rfl, a6, b6, C6, rfl⟩
      go_wp2_with fail
      refine (addlen_ex _ _ (by omega) (by omega) (by omega) _).mono ?_
      rintro e w' ⟨r7, rfl, a7, b7, C7, rfl⟩
      go_wp2_with fail
      refine (addlen_ex _ _ (by omega) (by omega) (by omega) _).mono ?_
      rintro e w' ⟨r8, rfl, a8, b8, C8, rfl⟩
      go_wp2_with fail
      refine (addlen_ex _ _ (by omega) (by omega) (by omega) _).mono ?_
      rintro e w' ⟨r9, rfl, a9, b9, C9, rfl⟩
      rcases hap with hap | ⟨pb, po, pi, pr, pq, hap, d0, d1, d2, _, _, _⟩
      · rw [hap] at c8
        by_cases hov : 1048576 < r9
        · go_wp2
          go_ret
          exact ⟨_, rfl, fun h => absurd h (by omega), rfl⟩
        · go_wp2
          go_round
          case rel =>
            refine ⟨k + 1, r9, by omega, by go_num, rfl, by omega, by omega, fun hr => ?_⟩
            have f9 := C9.out (by omega)
            have f8 := C8.out (by omega)
            have f7 := C7.out (by omega)
            have f6 := C6.out (by omega)
            have f5 := C5.out (by omega)
            have f4 := C4.out (by omega)
            have f3 := C3.out (by omega)
            have f2 := C2.out (by omega)
            have f1 := C1.out (by omega)
            have f0 := HZ.out (by omega)
            refine ⟨?_, fit_succ f0.2 (by omega) (by omega)⟩
            show t0 + ((txSum ps k + (ps k).tx.size : Nat) : Int) ≤ r9
            omega
          case measure => simp [intOf]; omega
      · rw [hap] at c8
        go_wp2_with fail
        refine (addlen_ex _ _ (by omega) (by omega) (by omega) _).mono ?_
        rintro e w' ⟨r10, rfl, a10, b10, C10, rfl⟩
        go_wp2_with fail
        refine (addlen_ex _ _ (by omega) (by omega) (by omega) _).mono ?_
        rintro e w' ⟨r11, rfl, a11, b11, C11, rfl⟩
        go_wp2_with fail
        refine (addlen_ex _ _ (by omega) (by omega) (by omega) _).mono ?_
        rintro e w' ⟨r12, rfl, a12, b12, C12, rfl⟩
        by_cases hov : 1048576 < r12
        · go_wp2
          go_ret
          exact ⟨_, rfl, fun h => absurd h (by omega), rfl⟩
        · go_wp2
          go_round
          case rel =>
            refine ⟨k + 1, r12, by omega, by go_num, rfl, by omega, by omega, fun hr => ?_⟩
            have f12 := C12.out (by omega)
            have f11 := C11.out (by omega)
            have f10 := C10.out (by omega)
            have f9 := C9.out (by omega)
            have f8 := C8.out (by omega)
            have f7 := C7.out (by omega)
            have f6 := C6.out (by omega)
            have f5 := C5.out (by omega)
            have f4 := C4.out (by omega)
            have f3 := C3.out (by omega)
            have f2 := C2.out (by omega)
            have f1 := C1.out (by omega)
            have f0 := HZ.out (by omega)
            refine ⟨?_, fit_succ f0.2 (by omega) (by omega)⟩
            show t0 + ((txSum ps k + (ps k).tx.size : Nat) : Int) ≤ r12
            omega
          case measure => simp [intOf]; omega
    · have i1 : ¬ (k : Int) < (n : Int) := by omega
      go_wp2
      go_ret
      obtain rfl : k = n := by omega
      exact ⟨z, rfl, HZ.out, rfl⟩
end Go.Proofs.Qxb6616796a
