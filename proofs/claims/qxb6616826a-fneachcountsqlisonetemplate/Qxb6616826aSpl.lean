/-
  spliced: the walks.
-/
import Derived.Test.Qxb6616826aInj
import Derived.Deep.QuietTactic
import Derived.BigQuiet
import Derived.Lib.Strings
namespace Go.Proofs.Qxb6616826a
open Go.RowKit

set_option maxHeartbeats 2000000 in
set_option maxRecDepth 100000 in
/-- whatever the texts: it returns a bool -/
theorem spl_any (e x y out : ByteArray) (i j : Nat) (hij : i ≤ j) (hj : j ≤ e.size) (he : e.size ≤ 200000) (hx : x.size ≤ 200000) (hy : y.size ≤ 200000) (ho : out.size ≤ 1000000) (w : World) :
    Calls Try.prog 19 #[.string e, .int .i64 (i : Int), .int .i64 (j : Int), .string x, .string y, .string out] w fun r w' => IsB r ∧ ∃ q, w' = w.drewN q := by
  by_cases hl : out.size = e.size + x.size + y.size
  · have hlb : ((out.size : Int) != (e.size : Int) + (x.size : Int) + (y.size : Int)) = false := by rw [bne_eq_false_iff_eq]; omega
    have b1 : (j : Int) - (i : Int) ≤ 200000 := by omega
    have b2 : (0 : Int) ≤ (j : Int) - (i : Int) := by omega
    have k1 : (i : Int) ≤ (out.size : Int) := by omega
    have k2 : (i : Int) + (x.size : Int) ≤ (out.size : Int) := by omega
    have k3 : (i : Int) + (x.size : Int) + ((j : Int) - (i : Int)) ≤ (out.size : Int) := by omega
    have k4 : (i : Int) + (x.size : Int) + ((j : Int) - (i : Int)) + (y.size : Int) ≤ (out.size : Int) := by omega
    clear hl
    go_enter Try.func19, Try.ntmps19
    go_wp2
    go_quiet (fail)
    go_wp2
    · go_ret
      exact ⟨⟨_, rfl⟩, _, rfl⟩
    · go_ret
      exact ⟨⟨_, rfl⟩, _, rfl⟩
    · go_quiet (fail)
      go_wp2
      · go_ret
        first | exact ⟨⟨_, rfl⟩, _, rfl⟩ | exact ⟨⟨_, rfl⟩, _, World.drewN_drewN _ _ _⟩
      · go_ret
        first | exact ⟨⟨_, rfl⟩, _, rfl⟩ | exact ⟨⟨_, rfl⟩, _, World.drewN_drewN _ _ _⟩
      · go_quiet (fail)
        go_wp2
        go_ret
        refine ⟨⟨_, rfl⟩, ?_⟩
        exact ⟨_, by first | rfl | (simp only [World.drewN_drewN]; rfl)⟩
  · have hlb : ((out.size : Int) != (e.size : Int) + (x.size : Int) + (y.size : Int)) = true := by rw [bne_iff_ne]; omega
    go_enter Try.func19, Try.ntmps19
    go_wp2
    go_ret
    exact ⟨⟨_, rfl⟩, 0, rfl⟩

/-- out is e with x put in at i and y put in at j -/
def Tmpl (e x y out : ByteArray) (i j : Nat) : Prop := out.data.toList = e.data.toList.take i ++ x.data.toList ++ (e.data.toList.drop i).take (j - i) ++ y.data.toList ++ e.data.toList.drop j

theorem ext_list (b : ByteArray) (s t : Nat) : (b.extract s t).toList = (b.data.toList.drop s).take (t - s) := by
  rw [ByteArray.toList_eq]
  exact Lib.extract_data b s t

theorem seg {l A B C : List UInt8} {n m : Nat} (hl : l = A ++ (B ++ C)) (hn : A.length = n) (hm : B.length = m) : (l.drop n).take m = B := by
  subst hl hn hm
  rw [List.drop_left, List.take_left]
theorem seg_end {l A B : List UInt8} {n m : Nat} (hl : l = A ++ B) (hn : A.length = n) (hm : B.length = m) : (l.drop n).take m = B := by
  subst hl hn hm
  rw [List.drop_left, List.take_length]

theorem beq_list {a b : List UInt8} (h : a = b) : (a == b) = true := by rw [beq_iff_eq]; exact h
theorem data_len (b : ByteArray) : b.data.toList.length = b.size := Array.length_toList

set_option maxHeartbeats 2000000 in
set_option maxRecDepth 100000 in
theorem spl_yes (e x y out : ByteArray) (i j : Nat) (hij : i ≤ j) (hj : j ≤ e.size) (he : e.size ≤ 200000) (hx : x.size ≤ 200000) (hy : y.size ≤ 200000) (hT : Tmpl e x y out i j) (w : World) :
    Calls Try.prog 19 #[.string e, .int .i64 (i : Int), .int .i64 (j : Int), .string x, .string y, .string out] w fun r w' => r = .returned (.bool true) ∧ ∃ q, w' = w.drewN q := by
  have le := data_len e
  have lx := data_len x
  have ly := data_len y
  have hl : out.size = e.size + x.size + y.size := by
    have h1 := congrArg List.length hT
    simp only [List.length_append, List.length_take, List.length_drop, data_len] at h1
    omega
  have la : (e.data.toList.take i).length = i := by rw [List.length_take]; omega
  have lm : ((e.data.toList.drop i).take (j - i)).length = j - i := by rw [List.length_take, List.length_drop]; omega
  have lz : (e.data.toList.drop j).length = e.size - j := by rw [List.length_drop]; omega
  have t1 : ((out.extract 0 i).toList == (e.extract 0 i).toList) = true := by
    apply beq_list
    rw [ext_list, ext_list]
    have h := seg (l := out.data.toList) (A := []) (B := e.data.toList.take i) (C := x.data.toList ++ ((e.data.toList.drop i).take (j - i) ++ (y.data.toList ++ e.data.toList.drop j))) (n := 0) (m := i) (hT.trans (by simp only [List.nil_append, List.append_assoc])) rfl la
    simpa using h
  have t2 : ((out.extract i (i + x.size)).toList == x.toList) = true := by
    apply beq_list
    rw [ext_list, ByteArray.toList_eq, show i + x.size - i = x.size by omega]
    exact seg (A := e.data.toList.take i) (C := (e.data.toList.drop i).take (j - i) ++ (y.data.toList ++ e.data.toList.drop j)) (hT.trans (by simp only [List.append_assoc])) la lx
  have t3 : ((out.extract (i + x.size) (i + x.size + (j - i))).toList == (e.extract i j).toList) = true := by
    apply beq_list
    rw [ext_list, ext_list, show i + x.size + (j - i) - (i + x.size) = j - i by omega]
    exact seg (A := e.data.toList.take i ++ x.data.toList) (B := (e.data.toList.drop i).take (j - i)) (C := y.data.toList ++ e.data.toList.drop j) (hT.trans (by simp only [List.append_assoc])) (by rw [List.length_append, la, lx]) lm
  have t4 : ((out.extract (i + x.size + (j - i)) (i + x.size + (j - i) + y.size)).toList == y.toList) = true := by
    apply beq_list
    rw [ext_list, ByteArray.toList_eq, show i + x.size + (j - i) + y.size - (i + x.size + (j - i)) = y.size by omega]
    exact seg (A := e.data.toList.take i ++ x.data.toList ++ (e.data.toList.drop i).take (j - i)) (C := e.data.toList.drop j) (hT.trans (by simp only [List.append_assoc])) (by rw [List.length_append, List.length_append, la, lx, lm]) ly
  have t5 : ((out.extract (i + x.size + (j - i) + y.size) out.size).toList == (e.extract j e.size).toList) = true := by
    apply beq_list
    rw [ext_list, ext_list, show out.size - (i + x.size + (j - i) + y.size) = e.size - j by omega]
    rw [seg_end (A := e.data.toList.take i ++ x.data.toList ++ (e.data.toList.drop i).take (j - i) ++ y.data.toList) (B := e.data.toList.drop j) hT (by rw [List.length_append, List.length_append, List.length_append, la, lx, lm, ly]) lz]
    rw [List.take_of_length_le (by omega)]
  have hlb : ((out.size : Int) != (e.size : Int) + (x.size : Int) + (y.size : Int)) = false := by rw [bne_eq_false_iff_eq]; omega
  have b1 : (j : Int) - (i : Int) ≤ 200000 := by omega
  have b2 : (0 : Int) ≤ (j : Int) - (i : Int) := by omega
  have k1 : (i : Int) ≤ (out.size : Int) := by omega
  have k2 : (i : Int) + (x.size : Int) ≤ (out.size : Int) := by omega
  have k3 : (i : Int) + (x.size : Int) + ((j : Int) - (i : Int)) ≤ (out.size : Int) := by omega
  have k4 : (i : Int) + (x.size : Int) + ((j : Int) - (i : Int)) + (y.size : Int) ≤ (out.size : Int) := by omega
  have ho : out.size ≤ 1000000 := by omega
  clear hl hT le lx ly la lm lz
  go_enter Try.func19, Try.ntmps19
  go_wp2
  go_quiet (fail)
  go_wp2
  go_quiet (fail)
  go_wp2
  go_quiet (fail)
  go_wp2
  go_ret
  refine ⟨rfl, ?_⟩
  exact ⟨_, by first | rfl | (simp only [World.drewN_drewN]; rfl)⟩
end Go.Proofs.Qxb6616826a
