/-
  zzEqual, zzBytes, zzClone: the walks.
-/
import Derived.Test.Qxb6616818aFmtFrame
namespace Go.Proofs.Qxb6616818aFmt
open Go.RowKit

set_option maxHeartbeats 2000000 in
set_option maxRecDepth 100000 in
/-- two slices that read alike -/
theorem equal_any (a b : Option Addr) (n ca cb : Nat) (xs : List Nat) (w : World) (hn : n ≤ 16777216) (ha : Reads w a n xs) (hb : Reads w b n xs) :
    Calls Tryf.prog 13 #[.slice a n ca, .slice b n cb] w fun e w' => e = .returned (.bool true) ∧ ∃ k, w' = w.drewN k := by
  have HA := Hid.mk' ha
  have HB := Hid.mk' hb
  clear ha hb
  go_enter Tryf.func13, Tryf.ntmps13
  go_wp2
  go_loopw [5] (fun t wr => ∃ i k : Nat, i ≤ n ∧ t = .int .i64 (i : Int) ∧ wr = w.drewN k) (fun t _ => n - (intOf t).toNat)
  case atStart => exact ⟨0, 0, by omega, rfl, rfl⟩
  case round =>
    obtain ⟨i, k, hi, rfl, rfl⟩ := hrel
    by_cases hlt : i < n
    · have i1 : (i : Int) < (n : Int) := by omega
      obtain ⟨hl, _, h1⟩ := HA.out
      obtain ⟨_, _, h2⟩ := HB.out
      rcases h1 with h1 | ⟨b1, o1, rfl, h1⟩
      · omega
      rcases h2 with h2 | ⟨b2, o2, rfl, h2⟩
      · omega
      have c1 := h1 i (by omega)
      have c2 := h2 i (by omega)
      generalize xs[i] = z at c1 c2
      have hz : ((z : Int) != (z : Int)) = false := by simp
      clear h1 h2 hl
      go_wp2
      go_quiet (fail)
      go_wp2
      go_roundw
      case rel => exact ⟨i + 1, _, by omega, by go_num, rfl⟩
      case measure => simp [intOf]; omega
    · have i1 : ¬ (i : Int) < (n : Int) := by omega
      go_wp2
      go_ret
      exact ⟨rfl, _, rfl⟩

set_option maxHeartbeats 1000000 in
set_option maxRecDepth 100000 in
theorem bytes_any (a : Option Addr) (n cap : Nat) (mp : Int) (w : World) (hn : n ≤ 1048576) :
    Calls Tryf.prog 14 #[.slice a n cap, .int .i64 mp] w fun e w' => e = .returned (.bool true) ∧ w = w' := by
  have i1 : ¬ (1048576 : Int) < (n : Int) := by omega
  go_enter Tryf.func14, Tryf.ntmps14
  go_wp2
  go_ret
  exact ⟨rfl, rfl⟩
theorem bytes_long (a : Option Addr) (n cap : Nat) (mp : Int) (w : World) (hn : 1048576 < n) :
    Calls Tryf.prog 14 #[.slice a n cap, .int .i64 mp] w fun e w' => e = .returned (.bool false) ∧ w = w' := by
  have i1 : (1048576 : Int) < (n : Int) := by omega
  go_enter Tryf.func14, Tryf.ntmps14
  go_wp2
  go_ret
  exact ⟨rfl, rfl⟩

/-- n zero bytes, as make lays them -/
def Zeros (n : Nat) : Array Value := madeCells #[.int .u8 0] n
theorem make_bytes (n : Nat) (hn : n ≤ 140737488351232) (w : World) :
    (Instr.makeSlice 24 (.int .i64 (n : Int)) (.int .i64 (n : Int))).run Tryf.prog w = .ok (.slice (some ⟨w.heap.size, 0, none⟩) n n) (w.alloc (.cells (Zeros n) 5)) := by
  obtain ⟨i0, hi, hz0, hz1, hz2⟩ := info_parts Tryf.info5
  have h := run_make (P := Tryf.prog) w 24 5 i0 (.int .u8 0) Tryf.underlying24 hi hz0 .i64 .i64 (n : Int) (n : Int) (by omega) (by omega) (by rw [hz2]; omega) (by omega)
  rw [hz1] at h
  simpa [Zeros, Value.cells] using h

set_option maxHeartbeats 1000000 in
set_option maxRecDepth 100000 in
theorem clone_nil (w : World) : Calls Tryf.prog 15 #[.slice none 0 0] w fun e w' => e = .returned (.slice none 0 0) ∧ w = w' := by
  have hnil := fun (w : World) (a : Option Addr) (n c : Nat) => Lib.run_eql_slice_nil w 24 5 a n c 0 0 Tryf.underlying24
  go_enter Tryf.func15, Tryf.ntmps15
  go_wp2
  go_ret
  exact ⟨rfl, rfl⟩

set_option maxHeartbeats 1000000 in
set_option maxRecDepth 100000 in
theorem clone_some (x : Addr) (n cap : Nat) (xs : List Nat) (w : World) (hn : n ≤ 1048576) (hx : Reads w (some x) n xs) :
    Calls Tryf.prog 15 #[.slice (some x) n cap] w fun e w' => e = .returned (.slice (some ⟨w.heap.size, 0, none⟩) n n) ∧ Row w' w.heap.size 5 (bv xs) ∧ Keep (fun _ => False) w w' := by
  have hnil := fun (w : World) (a : Option Addr) (n c : Nat) => Lib.run_eql_slice_nil w 24 5 a n c 0 0 Tryf.underlying24
  have hmk := make_bytes n (by omega)
  have HX := Hid.mk' hx
  clear hx
  have hbl : (bv xs).length = n := by rw [bv_length]; exact HX.out.1
  have hzl : (Zeros n).toList.length = n := by simp [Zeros, size_madeCells]
  have hrow : (w.alloc (.cells (Zeros n) 5)).heap[w.heap.size]? = some (.cells (Zeros n).toList.toArray 5 (0, 0)) := Row.newA w (Zeros n) 5
  have hmin : (bv xs).length = Nat.min n n := by rw [hbl]; exact (Nat.min_self n).symm
  have hpos : 0 < (bv xs).length → (some ⟨w.heap.size, 0, none⟩ : Option Addr) = some ⟨w.heap.size, 0, none⟩ ∧ ∃ ad, (some x : Option Addr) = some ad ∧ ∀ j v, (bv xs)[j]? = some v → (w.alloc (.cells (Zeros n) 5)).cell? (ad.add j) = some v := by
    intro h0
    refine ⟨rfl, x, rfl, fun j v hj => ?_⟩
    obtain ⟨hl, _, hc⟩ := HX.out
    rcases hc with hc | ⟨b, o, hb, hc⟩
    · omega
    cases hb
    have hjl : j < xs.length := by have := (List.getElem?_eq_some_iff.1 hj).1; rwa [bv_length] at this
    rw [bv_at hjl] at hj
    have e : (⟨b, o, none⟩ : Addr).add j = ⟨b, o + j, none⟩ := by unfold Addr.add; split <;> simp_all
    have hcj := hc j hjl
    rw [e, World.cell?_alloc_lt w _ _ (World.block_lt_of_cell? w _ hcj), hcj]
    exact hj
  by_cases h0 : 0 < n
  · obtain ⟨_, ad, had, hsrc⟩ := hpos (by omega)
    cases had
    have hcopy := run_copy_row (P := Tryf.prog) (w.alloc (.cells (Zeros n) 5)) 24 24 3 5 w.heap.size 0 n n x n cap (Zeros n).toList.toArray 5 (bv xs) Tryf.underlying24 Tryf.size5 hrow hmin hsrc (by simp only [Nat.zero_add, List.size_toArray]; omega) (bv_one xs)
    rw [hbl] at hcopy
    have hw2 : ((Zeros n).toList.toArray.toList.take 0 ++ bv xs ++ (Zeros n).toList.toArray.toList.drop (0 + n)).toArray = (bv xs).toArray := by
      rw [List.take_zero, List.nil_append, Nat.zero_add, List.drop_of_length_le (by simp only []; omega), List.append_nil]
    rw [hw2] at hcopy
    have hr2 : Row ((w.alloc (.cells (Zeros n) 5)).setRow w.heap.size (bv xs).toArray) w.heap.size 5 (bv xs) := Row.row (cs := (Zeros n).toList) hrow (bv xs)
    have hk2 : Keep (fun _ => False) w ((w.alloc (.cells (Zeros n) 5)).setRow w.heap.size (bv xs).toArray) := Keep.setRow ((Keep.refl _ w).alloc _) (fun h => absurd h (Nat.lt_irrefl _)) _
    have HR2 := Hid.mk' hr2
    have HK2 := Hid.mk' hk2
    clear hrow hmin hpos hbl hzl hsrc hw2 hr2 hk2 HX
    generalize (w.alloc (.cells (Zeros n) 5)).setRow w.heap.size (bv xs).toArray = w2 at *
    go_enter Tryf.func15, Tryf.ntmps15
    go_wp2
    go_ret
    exact ⟨rfl, HR2.out, HK2.out⟩
  · obtain rfl : n = 0 := by omega
    have hxs : xs = [] := List.length_eq_zero_iff.1 HX.out.1
    have hcopy := run_copy_none (P := Tryf.prog) (w.alloc (.cells (Zeros 0) 5)) 24 24 3 5 (some ⟨w.heap.size, 0, none⟩) (some x) 0 0 0 cap Tryf.underlying24 Tryf.size5 rfl
    have hr2 : Row (w.alloc (.cells (Zeros 0) 5)) w.heap.size 5 (bv xs) := by
      have h := Row.newA w (Zeros 0) 5
      rw [show (Zeros 0).toList = [] from List.length_eq_zero_iff.1 hzl] at h
      rw [hxs]; exact h
    have hk2 : Keep (fun _ => False) w (w.alloc (.cells (Zeros 0) 5)) := (Keep.refl _ w).alloc _
    have HR2 := Hid.mk' hr2
    have HK2 := Hid.mk' hk2
    have hmk0 : (Instr.makeSlice 24 (.int .i64 0) (.int .i64 0)).run Tryf.prog w = .ok (.slice (some ⟨w.heap.size, 0, none⟩) 0 0) (w.alloc (.cells (Zeros 0) 5)) := make_bytes 0 (by omega) w
    clear hrow hmin hpos hbl hzl hr2 hk2 HX hxs hmk
    generalize w.alloc (.cells (Zeros 0) 5) = w2 at *
    go_enter Tryf.func15, Tryf.ntmps15
    go_wp2
    go_ret
    exact ⟨rfl, HR2.out, HK2.out⟩
end Go.Proofs.Qxb6616818aFmt
