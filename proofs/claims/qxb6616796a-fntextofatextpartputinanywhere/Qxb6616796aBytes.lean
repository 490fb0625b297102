/-
  zzBytes_FnTextOfATextPartPutInAnywhere: it answers some bool and turns nothing.
-/
import Derived.Test.Qxb6616796aSizes
namespace Go.Proofs.Qxb6616796a
open Go.RowKit

/-- it returns a bool -/
def IsB (e : Ending) : Prop := ∃ r : Bool, e = .returned (.bool r)

set_option maxHeartbeats 4000000 in
set_option maxRecDepth 100000 in
theorem zzbytes_any (a : Option Addr) (n cap : Nat) (hn : n ≤ 9223372036854775807) (i : Int) (t : ByteArray) (ht : t.size ≤ 9223372036854775807) (ps : Nat → LP) (w : World) (hp : PartsAt w a n ps) :
    Calls Try.prog 11 #[.slice a n cap, .int .i64 i, .string t] w fun e w' => IsB e ∧ w = w' := by
  have HP : Hid (PartsAt w a n ps) := hp
  clear hp
  by_cases hbig : 1048576 < (n : Int)
  · go_enter Try.func11, Try.ntmps11
    go_wp2
    go_ret
    exact ⟨⟨_, rfl⟩, rfl⟩
  · go_enter Try.func11, Try.ntmps11
    go_wp2
    go_loop [7, 8] (fun v t => ∃ (k : Nat) (z : Int), k ≤ n ∧ t = .int .i64 (k : Int) ∧ v = .int .i64 z ∧ 0 ≤ z ∧ z ≤ 1048576) (fun _ t => n - (intOf t).toNat)
    case atStart => exact ⟨0, n, by omega, rfl, rfl, by omega, by omega⟩
    case round =>
      obtain ⟨k, z, hk, rfl, rfl, hz0, hz1⟩ := hrel
      by_cases hlt : k < n
      · have i1 : (k : Int) < (n : Int) := by omega
        rcases HP.out with h | ⟨b, o, ha, hpa⟩
        · omega
        have q := hpa k hlt
        subst ha
        clear hpa
        have c0 := q.c0
        have c1 := q.c1
        have c2 := q.c2
        have c3 := q.c3
        have c4 := q.c4
        have c5 := q.c5
        have c6 := q.c6
        have c7 := q.c7
        have c8 := q.c8
        have hap := q.ap
        clear q HP
        rcases hap with hap | ⟨pb, po, pi, pr, pq, hap, d0, d1, d2, _, _, _⟩
        · rw [hap] at c8
          clear hap
          go_wp2
          all_goals first
            | (go_ret; exact ⟨⟨_, rfl⟩, rfl⟩)
            | exact ⟨⟨k + 1, _, by omega, by go_num, rfl, by omega, by omega⟩, by simp [intOf]; omega⟩
        · rw [hap] at c8
          clear hap
          go_wp2
          all_goals first
            | (go_ret; exact ⟨⟨_, rfl⟩, rfl⟩)
            | exact ⟨⟨k + 1, _, by omega, by go_num, rfl, by omega, by omega⟩, by simp [intOf]; omega⟩
      · have i1 : ¬ (k : Int) < (n : Int) := by omega
        go_wp2
        all_goals (go_ret; exact ⟨⟨_, rfl⟩, rfl⟩)
end Go.Proofs.Qxb6616796a
