/-
  sameTwoPlaces and FnEachCountSQLIsOneTemplate: the walks.
-/
import Derived.Test.Qxb6616826aSpl
namespace Go.Proofs.Qxb6616826a
open Go.RowKit

set_option maxHeartbeats 2000000 in
set_option maxRecDepth 100000 in
theorem same_any (e x1 y1 o1 x2 y2 o2 : ByteArray) (i0 j0 : Nat) (hij : i0 ≤ j0) (hj : j0 ≤ e.size) (he : e.size ≤ 200000) (h1 : x1.size ≤ 200000) (h2 : y1.size ≤ 200000) (h3 : x2.size ≤ 200000) (h4 : y2.size ≤ 200000)
    (h5 : o1.size ≤ 1000000) (h6 : o2.size ≤ 1000000) (hT1 : Tmpl e x1 y1 o1 i0 j0) (hT2 : Tmpl e x2 y2 o2 i0 j0) (w : World) :
    Calls Try.prog 8 #[.string e, .string x1, .string y1, .string o1, .string x2, .string y2, .string o2] w fun r w' => r = .returned (.bool true) ∧ ∃ q, w' = w.drewN q := by
  have T1 : Hid (Tmpl e x1 y1 o1 i0 j0) := hT1
  have T2 : Hid (Tmpl e x2 y2 o2 i0 j0) := hT2
  clear hT1 hT2
  go_enter Try.func8, Try.ntmps8
  go_wp2
  go_loopw [15] (fun t wr => ∃ i m : Nat, i ≤ i0 ∧ t = .int .i64 (i : Int) ∧ wr = w.drewN m) (fun t _ => i0 + 1 - (intOf t).toNat)
  case atStart => exact ⟨0, 0, by omega, rfl, rfl⟩
  case round =>
    obtain ⟨i, m, hi, rfl, rfl⟩ := hrel
    have c1 : (i : Int) ≤ (e.size : Int) := by omega
    go_wp2
    go_loopw [16] (fun t wr => ∃ j q : Nat, i ≤ j ∧ j ≤ e.size + 1 ∧ (i < i0 ∨ j ≤ j0) ∧ t = .int .i64 (j : Int) ∧ wr = w.drewN q) (fun t _ => e.size + 1 - (intOf t).toNat)
    case atStart => exact ⟨i, m, by omega, by omega, by omega, rfl, rfl⟩
    case round =>
      obtain ⟨j, q, hj1, hj2, hjj, rfl, rfl⟩ := hrel
      by_cases hlt : j ≤ e.size
      · have c2 : (j : Int) ≤ (e.size : Int) := by omega
        by_cases hhit : i = i0 ∧ j = j0
        · obtain ⟨rfl, rfl⟩ := hhit
          go_wp2_with fail
          refine (spl_yes e x1 y1 o1 i j hj1 hlt he h1 h2 T1.out _).mono ?_
          rintro e' w' ⟨rfl, q1, rfl⟩
          go_wp2_with fail
          refine (spl_yes e x2 y2 o2 i j hj1 hlt he h3 h4 T2.out _).mono ?_
          rintro e' w' ⟨rfl, q2, rfl⟩
          go_wp2
          go_ret
          exact ⟨rfl, _, rfl⟩
        · go_wp2_with fail
          refine (spl_any e x1 y1 o1 i j hj1 hlt he h1 h2 h5 _).mono ?_
          rintro e' w' ⟨⟨r1, rfl⟩, q1, rfl⟩
          cases r1
          · go_wp2
            go_roundw
            case rel => exact ⟨j+1, _, by omega, by omega, by omega, by go_num, rfl⟩
            case measure => simp [intOf]; omega
          · go_wp2_with fail
            refine (spl_any e x2 y2 o2 i j hj1 hlt he h3 h4 h6 _).mono ?_
            rintro e' w' ⟨⟨r2, rfl⟩, q2, rfl⟩
            cases r2
            · go_wp2
              go_roundw
              case rel => exact ⟨j+1, _, by omega, by omega, by omega, by go_num, rfl⟩
              case measure => simp [intOf]; omega
            · go_wp2
              go_ret
              exact ⟨rfl, _, rfl⟩
      · have c2 : ¬ (j : Int) ≤ (e.size : Int) := by omega
        go_wp2
        go_roundw
        case rel => exact ⟨i+1, _, by omega, by go_num, rfl⟩
        case measure => simp [intOf]; omega
end Go.Proofs.Qxb6616826a
