/-
  FnEachCountSQLInjectiveInEachArgument: the walk.
-/
import Derived.Test.Qxb6616826aSql
namespace Go.Proofs.Qxb6616826a
open Go.RowKit

/-- it returns a bool -/
def IsB (e : Ending) : Prop := ∃ r : Bool, e = .returned (.bool r)
theorem ret_bool {a b : Bool} (h : a = b) : Ending.returned (.bool a) = .returned (.bool b) := by rw [h]

theorem sql_size (r p : ByteArray) : (sql r p).size = r.size + p.size + 145 := by
  show (sqlL r.data.toList p.data.toList).toArray.size = _
  simp only [sqlL, P1, P2, P3, List.size_toArray, List.length_append, Array.length_toList, List.length_cons, List.length_nil]
  show _ = r.data.size + p.data.size + 145
  omega
theorem data_inj {a b : ByteArray} : a.data.toList = b.data.toList ↔ a = b := by
  constructor
  · intro h; exact ByteArray.ext (Array.toList_inj.1 h)
  · intro h; rw [h]
theorem sql_inj_r (r r' p : ByteArray) : sql r p = sql r' p ↔ r = r' := by
  constructor
  · intro h
    have h1 := congrArg (fun a : ByteArray => a.data.toList) h
    simp only [sql, sqlL, List.append_assoc, List.append_cancel_left_eq, List.append_cancel_right_eq] at h1
    exact data_inj.1 h1
  · intro h; rw [h]
theorem sql_inj_p (r p p' : ByteArray) : sql r p = sql r p' ↔ p = p' := by
  constructor
  · intro h
    have h1 := congrArg (fun a : ByteArray => a.data.toList) h
    simp only [sql, sqlL, List.append_cancel_right_eq, List.append_cancel_left_eq] at h1
    exact data_inj.1 h1
  · intro h; rw [h]
theorem toList_inj {a b : ByteArray} : a.toList = b.toList ↔ a = b := by
  simp only [ByteArray.toList_eq, data_inj]
theorem beq_of {a b c d : ByteArray} (h : a = b ↔ c = d) : (a.toList == b.toList) = (c.toList == d.toList) := by
  rw [Bool.eq_iff_iff, beq_iff_eq, beq_iff_eq, toList_inj, toList_inj]; exact h

set_option maxHeartbeats 1000000 in
set_option maxRecDepth 100000 in
theorem zz9_any (a b c d : ByteArray) (ha : a.size ≤ 9223372036854775807) (hb : b.size ≤ 9223372036854775807) (hc : c.size ≤ 9223372036854775807) (hd : d.size ≤ 9223372036854775807) (w : World) :
    Calls Try.prog 9 #[.string a, .string b, .string c, .string d] w fun e w' => IsB e ∧ w = w' := by
  go_enter Try.func9, Try.ntmps9
  go_wp2
  all_goals (go_ret; exact ⟨⟨_, rfl⟩, rfl⟩)

set_option maxHeartbeats 1000000 in
set_option maxRecDepth 100000 in
theorem inj_main (r1 p1 r2 p2 : ByteArray) (h1 : r1.size ≤ 65536) (h2 : p1.size ≤ 65536) (h3 : r2.size ≤ 65536) (h4 : p2.size ≤ 65536) (w : World) :
    Calls Try.prog 4 #[.string r1, .string p1, .string r2, .string p2] w fun e w' => e = .returned (.bool true) ∧ w = w' := by
  have E1 := beq_of (sql_inj_r r1 r2 p1)
  have E2 := beq_of (sql_inj_p r1 p1 p2)
  have S1 := sql_size r1 p1
  have S2 := sql_size r2 p2
  have A1 : Hid (∀ w : World, Calls Try.prog 7 #[.string r1, .string p1] w fun e w' => e = .returned (.string (sql r1 p1)) ∧ w = w') := sql_any r1 p1 h1 h2
  have A2 : Hid (∀ w : World, Calls Try.prog 7 #[.string r2, .string p1] w fun e w' => e = .returned (.string (sql r2 p1)) ∧ w = w') := sql_any r2 p1 h3 h2
  have A3 : Hid (∀ w : World, Calls Try.prog 7 #[.string r1, .string p2] w fun e w' => e = .returned (.string (sql r1 p2)) ∧ w = w') := sql_any r1 p2 h1 h4
  have A4 : Hid (∀ w : World, Calls Try.prog 7 #[.string r2, .string p2] w fun e w' => e = .returned (.string (sql r2 p2)) ∧ w = w') := sql_any r2 p2 h3 h4
  generalize sql r1 p1 = a at *
  generalize sql r2 p1 = b at *
  generalize sql r1 p2 = c at *
  generalize sql r2 p2 = d at *
  have s1 : a.size ≤ 200000 := by omega
  have s2 : d.size ≤ 200000 := by omega
  have d1 : decide ((65536 : Int) < (r1.size : Int)) = false := by simp; omega
  have d2 : decide ((65536 : Int) < (p1.size : Int)) = false := by simp; omega
  have d3 : decide ((65536 : Int) < (r2.size : Int)) = false := by simp; omega
  have d4 : decide ((65536 : Int) < (p2.size : Int)) = false := by simp; omega
  have q1 : ((a.size : Int) - (r1.size : Int) - (p1.size : Int) == (d.size : Int) - (r2.size : Int) - (p2.size : Int)) = true := by rw [beq_iff_eq]; omega
  have q2 : (r1.size : Int) + (p1.size : Int) < (a.size : Int) := by omega
  have HS1 : Hid (a.size = r1.size + p1.size + 145) := S1
  have HS2 : Hid (d.size = r2.size + p2.size + 145) := S2
  clear S1 S2
  go_enter Try.func4, Try.ntmps4
  go_wp2_with fail
  refine (zz9_any r1 p1 r2 p2 (by omega) (by omega) (by omega) (by omega) _).mono ?_
  rintro e w' ⟨⟨r, rfl⟩, rfl⟩
  cases r
  · go_wp2
    go_ret
    exact ⟨rfl, rfl⟩
  go_wp2_with fail
  refine (A1.out _).mono ?_
  rintro e w' ⟨rfl, rfl⟩
  go_wp2_with fail
  refine (A2.out _).mono ?_
  rintro e w' ⟨rfl, rfl⟩
  go_wp2_with fail
  refine (A3.out _).mono ?_
  rintro e w' ⟨rfl, rfl⟩
  go_wp2_with fail
  refine (A4.out _).mono ?_
  rintro e w' ⟨rfl, rfl⟩
  go_wp2
  go_ret
  exact ⟨rfl, rfl⟩

set_option maxHeartbeats 1000000 in
set_option maxRecDepth 100000 in
theorem inj_all (r1 p1 r2 p2 : ByteArray) (h1 : r1.size ≤ 9223372036854775807) (h2 : p1.size ≤ 9223372036854775807) (h3 : r2.size ≤ 9223372036854775807) (h4 : p2.size ≤ 9223372036854775807) (w : World) :
    Calls Try.prog 4 #[.string r1, .string p1, .string r2, .string p2] w fun e w' => e = .returned (.bool true) ∧ w = w' := by
  by_cases g1 : r1.size ≤ 65536
  · by_cases g2 : p1.size ≤ 65536
    · by_cases g3 : r2.size ≤ 65536
      · by_cases g4 : p2.size ≤ 65536
        · exact inj_main r1 p1 r2 p2 g1 g2 g3 g4 w
        · have d1 : decide ((65536 : Int) < (r1.size : Int)) = false := by simp; omega
          have d2 : decide ((65536 : Int) < (p1.size : Int)) = false := by simp; omega
          have d3 : decide ((65536 : Int) < (r2.size : Int)) = false := by simp; omega
          have d4 : decide ((65536 : Int) < (p2.size : Int)) = true := by simp; omega
          go_enter Try.func4, Try.ntmps4
          go_wp2_with fail
          refine (zz9_any r1 p1 r2 p2 (by omega) (by omega) (by omega) (by omega) _).mono ?_
          rintro e w' ⟨⟨r, rfl⟩, rfl⟩
          cases r <;> (go_wp2; go_ret; exact ⟨rfl, rfl⟩)
      · have d1 : decide ((65536 : Int) < (r1.size : Int)) = false := by simp; omega
        have d2 : decide ((65536 : Int) < (p1.size : Int)) = false := by simp; omega
        have d3 : decide ((65536 : Int) < (r2.size : Int)) = true := by simp; omega
        go_enter Try.func4, Try.ntmps4
        go_wp2_with fail
        refine (zz9_any r1 p1 r2 p2 (by omega) (by omega) (by omega) (by omega) _).mono ?_
        rintro e w' ⟨⟨r, rfl⟩, rfl⟩
        cases r <;> (go_wp2; go_ret; exact ⟨rfl, rfl⟩)
    · have d1 : decide ((65536 : Int) < (r1.size : Int)) = false := by simp; omega
      have d2 : decide ((65536 : Int) < (p1.size : Int)) = true := by simp; omega
      go_enter Try.func4, Try.ntmps4
      go_wp2_with fail
      refine (zz9_any r1 p1 r2 p2 (by omega) (by omega) (by omega) (by omega) _).mono ?_
      rintro e w' ⟨⟨r, rfl⟩, rfl⟩
      cases r <;> (go_wp2; go_ret; exact ⟨rfl, rfl⟩)
  · have d1 : decide ((65536 : Int) < (r1.size : Int)) = true := by simp; omega
    go_enter Try.func4, Try.ntmps4
    go_wp2_with fail
    refine (zz9_any r1 p1 r2 p2 (by omega) (by omega) (by omega) (by omega) _).mono ?_
    rintro e w' ⟨⟨r, rfl⟩, rfl⟩
    cases r <;> (go_wp2; go_ret; exact ⟨rfl, rfl⟩)
end Go.Proofs.Qxb6616826a
