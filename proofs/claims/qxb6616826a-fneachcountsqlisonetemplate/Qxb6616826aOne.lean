/-
  FnEachCountSQLIsOneTemplate: the walk. The template is the text of two empty arguments; the places are behind P1 and behind P1 and P2.
-/
import Derived.Test.Qxb6616826aSame
namespace Go.Proofs.Qxb6616826a
open Go.RowKit

set_option maxRecDepth 100000 in
theorem tmpl_of (r p : ByteArray) : Tmpl (sql ⟨#[]⟩ ⟨#[]⟩) p r (sql r p) 46 93 := by
  have hd : ∀ r p : ByteArray, (sql r p).data.toList = P1 ++ (p.data.toList ++ (P2 ++ (r.data.toList ++ P3))) := by
    intro r p; simp only [sql, sqlL, List.append_assoc]
  have l1 : P1.length = 46 := rfl
  have l2 : P2.length = 47 := rfl
  unfold Tmpl
  rw [hd, hd]
  have n : (⟨#[]⟩ : ByteArray).data.toList = [] := rfl
  rw [n, List.nil_append, List.nil_append]
  rw [← l1, List.take_left, List.drop_left]
  have d2 : (P1 ++ (P2 ++ P3)).drop 93 = P3 := by
    rw [← List.append_assoc]
    exact List.drop_left' (by rw [List.length_append, l1, l2])
  rw [d2, show 93 - P1.length = P2.length by rw [l1, l2], List.take_left]
  simp only [List.append_assoc]

set_option maxHeartbeats 1000000 in
set_option maxRecDepth 100000 in
theorem zz6_any (a b c d : ByteArray) (ha : a.size ≤ 9223372036854775807) (hb : b.size ≤ 9223372036854775807) (hc : c.size ≤ 9223372036854775807) (hd : d.size ≤ 9223372036854775807) (w : World) :
    Calls Try.prog 6 #[.string a, .string b, .string c, .string d] w fun e w' => IsB e ∧ w = w' := by
  go_enter Try.func6, Try.ntmps6
  go_wp2
  all_goals (go_ret; exact ⟨⟨_, rfl⟩, rfl⟩)

set_option maxHeartbeats 1000000 in
set_option maxRecDepth 100000 in
theorem one_main (r1 p1 r2 p2 : ByteArray) (h1 : r1.size ≤ 65536) (h2 : p1.size ≤ 65536) (h3 : r2.size ≤ 65536) (h4 : p2.size ≤ 65536) (w : World) :
    Calls Try.prog 3 #[.string r1, .string p1, .string r2, .string p2] w fun e w' => e = .returned (.bool true) ∧ ∃ q, w' = w.drewN q := by
  have S0 := sql_size ⟨#[]⟩ ⟨#[]⟩
  have S1 := sql_size r1 p1
  have S2 := sql_size r2 p2
  have T1 : Hid (Tmpl (sql ⟨#[]⟩ ⟨#[]⟩) p1 r1 (sql r1 p1) 46 93) := tmpl_of r1 p1
  have T2 : Hid (Tmpl (sql ⟨#[]⟩ ⟨#[]⟩) p2 r2 (sql r2 p2) 46 93) := tmpl_of r2 p2
  have A0 : Hid (∀ w : World, Calls Try.prog 7 #[.string ⟨#[]⟩, .string ⟨#[]⟩] w fun e w' => e = .returned (.string (sql ⟨#[]⟩ ⟨#[]⟩)) ∧ w = w') := sql_any ⟨#[]⟩ ⟨#[]⟩ (by decide) (by decide)
  have A1 : Hid (∀ w : World, Calls Try.prog 7 #[.string r1, .string p1] w fun e w' => e = .returned (.string (sql r1 p1)) ∧ w = w') := sql_any r1 p1 h1 h2
  have A2 : Hid (∀ w : World, Calls Try.prog 7 #[.string r2, .string p2] w fun e w' => e = .returned (.string (sql r2 p2)) ∧ w = w') := sql_any r2 p2 h3 h4
  have z : (⟨#[]⟩ : ByteArray).size = 0 := rfl
  rw [z] at S0
  generalize sql ⟨#[]⟩ ⟨#[]⟩ = e at *
  generalize sql r1 p1 = a at *
  generalize sql r2 p2 = d at *
  have s0 : e.size = 145 := by omega
  have s1 : a.size ≤ 200000 := by omega
  have s2 : d.size ≤ 200000 := by omega
  have s3 : (0 : Int) < (e.size : Int) := by omega
  have d1 : decide ((65536 : Int) < (r1.size : Int)) = false := by simp; omega
  have d2 : decide ((65536 : Int) < (p1.size : Int)) = false := by simp; omega
  have d3 : decide ((65536 : Int) < (r2.size : Int)) = false := by simp; omega
  have d4 : decide ((65536 : Int) < (p2.size : Int)) = false := by simp; omega
  have M : Hid (∀ w : World, Calls Try.prog 8 #[.string e, .string p1, .string r1, .string a, .string p2, .string r2, .string d] w fun r w' => r = .returned (.bool true) ∧ ∃ q, w' = w.drewN q) :=
    fun w => same_any e p1 r1 a p2 r2 d 46 93 (by omega) (by omega) (by omega) (by omega) (by omega) (by omega) (by omega) (by omega) (by omega) T1.out T2.out w
  clear S0 S1 S2 T1 T2 z s0 s1 s2
  go_enter Try.func3, Try.ntmps3
  go_wp2_with fail
  refine (zz6_any r1 p1 r2 p2 (by omega) (by omega) (by omega) (by omega) _).mono ?_
  rintro r w' ⟨⟨r, rfl⟩, rfl⟩
  cases r
  · go_wp2
    go_ret
    exact ⟨rfl, 0, rfl⟩
  go_wp2_with fail
  refine (A0.out _).mono ?_
  rintro r w' ⟨rfl, rfl⟩
  go_wp2_with fail
  refine (A1.out _).mono ?_
  rintro r w' ⟨rfl, rfl⟩
  go_wp2_with fail
  refine (A2.out _).mono ?_
  rintro r w' ⟨rfl, rfl⟩
  go_wp2_with fail
  refine (M.out _).mono ?_
  rintro r w' ⟨rfl, q, rfl⟩
  go_wp2
  go_ret
  exact ⟨rfl, q, rfl⟩

set_option maxHeartbeats 1000000 in
set_option maxRecDepth 100000 in
theorem one_all (r1 p1 r2 p2 : ByteArray) (h1 : r1.size ≤ 9223372036854775807) (h2 : p1.size ≤ 9223372036854775807) (h3 : r2.size ≤ 9223372036854775807) (h4 : p2.size ≤ 9223372036854775807) (w : World) :
    Calls Try.prog 3 #[.string r1, .string p1, .string r2, .string p2] w fun e w' => e = .returned (.bool true) ∧ ∃ q, w' = w.drewN q := by
  by_cases g1 : r1.size ≤ 65536
  · by_cases g2 : p1.size ≤ 65536
    · by_cases g3 : r2.size ≤ 65536
      · by_cases g4 : p2.size ≤ 65536
        · exact one_main r1 p1 r2 p2 g1 g2 g3 g4 w
        · have d1 : decide ((65536 : Int) < (r1.size : Int)) = false := by simp; omega
          have d2 : decide ((65536 : Int) < (p1.size : Int)) = false := by simp; omega
          have d3 : decide ((65536 : Int) < (r2.size : Int)) = false := by simp; omega
          have d4 : decide ((65536 : Int) < (p2.size : Int)) = true := by simp; omega
          go_enter Try.func3, Try.ntmps3
          go_wp2_with fail
          refine (zz6_any r1 p1 r2 p2 (by omega) (by omega) (by omega) (by omega) _).mono ?_
          rintro e w' ⟨⟨r, rfl⟩, rfl⟩
          cases r <;> (go_wp2; go_ret; exact ⟨rfl, 0, rfl⟩)
      · have d1 : decide ((65536 : Int) < (r1.size : Int)) = false := by simp; omega
        have d2 : decide ((65536 : Int) < (p1.size : Int)) = false := by simp; omega
        have d3 : decide ((65536 : Int) < (r2.size : Int)) = true := by simp; omega
        go_enter Try.func3, Try.ntmps3
        go_wp2_with fail
        refine (zz6_any r1 p1 r2 p2 (by omega) (by omega) (by omega) (by omega) _).mono ?_
        rintro e w' ⟨⟨r, rfl⟩, rfl⟩
        cases r <;> (go_wp2; go_ret; exact ⟨rfl, 0, rfl⟩)
    · have d1 : decide ((65536 : Int) < (r1.size : Int)) = false := by simp; omega
      have d2 : decide ((65536 : Int) < (p1.size : Int)) = true := by simp; omega
      go_enter Try.func3, Try.ntmps3
      go_wp2_with fail
      refine (zz6_any r1 p1 r2 p2 (by omega) (by omega) (by omega) (by omega) _).mono ?_
      rintro e w' ⟨⟨r, rfl⟩, rfl⟩
      cases r <;> (go_wp2; go_ret; exact ⟨rfl, 0, rfl⟩)
  · have d1 : decide ((65536 : Int) < (r1.size : Int)) = true := by simp; omega
    go_enter Try.func3, Try.ntmps3
    go_wp2_with fail
    refine (zz6_any r1 p1 r2 p2 (by omega) (by omega) (by omega) (by omega) _).mono ?_
    rintro e w' ⟨⟨r, rfl⟩, rfl⟩
    cases r <;> (go_wp2; go_ret; exact ⟨rfl, 0, rfl⟩)
end Go.Proofs.Qxb6616826a
