/-
  cloneBytes: the walk.
-/
import Derived.Test.Qxb6616796aProg
import Derived.Test.Qxb6616796aMem
import Derived.WalkSpells
namespace Go.Proofs.Qxb6616796a
open Go.RowKit

theorem Try.info5 : (Try.prog.info? 5).map (fun i => (i.zero, i.size, i.bytes)) = some (some (.int .u8 0), 1, 1) := by kernel_rfl

/-- n zero bytes, as make lays them -/
def Zeros (n : Nat) : Array Value := madeCells #[.int .u8 0] n

theorem make_bytes (n : Nat) (hn : n ≤ 140737488351232) (w : World) :
    (Instr.makeSlice 28 (.int .i64 (n : Int)) (.int .i64 (n : Int))).run Try.prog w = .ok (.slice (some ⟨w.heap.size, 0, none⟩) n n) (w.alloc (.cells (Zeros n) 5)) := by
  obtain ⟨i0, hi, hz0, hz1, hz2⟩ := info_parts Try.info5
  have h := run_make (P := Try.prog) w 28 5 i0 (.int .u8 0) Try.underlying28 hi hz0 .i64 .i64 (n : Int) (n : Int) (by omega) (by omega) (by rw [hz2]; omega) (by omega)
  rw [hz1] at h
  simpa [Zeros, Value.cells] using h

/-- block H is a row of n cells of bytes, none frozen -/
def Row5 (w : World) (H n : Nat) : Prop := ∃ cur, w.heap[H]? = some (.cells cur 5 (0, 0)) ∧ cur.size = n

theorem row5_made (w : World) (n : Nat) : Row5 (w.alloc (.cells (Zeros n) 5)) w.heap.size n :=
  ⟨Zeros n, heap_alloc_new w _, by simp [Zeros, size_madeCells]⟩

theorem Row5.set {w : World} {H n : Nat} (h : Row5 w H n) (i : Nat) (v : Value) : Row5 (w.setCell ⟨H, i, none⟩ v) H n := by
  obtain ⟨cur, h1, h2⟩ := h
  refine ⟨cur.setIfInBounds i v, ?_, by simpa using h2⟩
  simp [World.setCell, Array.getElem?_modify, h1]

theorem Row5.cell {w : World} {H n : Nat} (h : Row5 w H n) (i : Nat) (hi : i < n) : ∃ u, w.cell? ⟨H, i, none⟩ = some u := by
  obtain ⟨cur, h1, h2⟩ := h
  refine ⟨cur[i]'(by omega), ?_⟩
  unfold World.cell?; simp only [h1]
  show cur[i]? = _
  rw [Array.getElem?_eq_getElem (by omega)]

theorem Row5.free {w : World} {H n : Nat} (h : Row5 w H n) (i : Nat) : w.frozen? ⟨H, i, none⟩ = false := by
  obtain ⟨cur, h1, h2⟩ := h
  unfold World.frozen?; simp only [h1]; simp

/-- it returns a slice of length n -/
def IsSl (n : Nat) (e : Ending) : Prop := ∃ a c, e = .returned (.slice a n c)

set_option maxHeartbeats 1000000 in
set_option maxRecDepth 100000 in
theorem clone_any (a : Option Addr) (n c : Nat) (hn : n ≤ 1048576) (w : World) (hb : BytesAt w a n c) :
    Calls Try.prog 16 #[.slice a n c] w fun e w' => IsSl n e ∧ Below w.heap.size w w' := by
  have hnil := fun (w : World) (a : Option Addr) (n c : Nat) => Lib.run_eql_slice_nil w 28 5 a n c 0 0 Try.underlying28
  rcases hb with ⟨rfl, rfl, rfl⟩ | ⟨x, rfl, hnc, hcell⟩
  · go_enter Try.func16, Try.ntmps16
    go_wp2
    go_ret
    exact ⟨⟨none, 0, rfl⟩, Below.refl _ _⟩
  · have hmk := make_bytes n (by omega)
    have HC : Hid (∀ j, j < n → ∃ z : Int, w.cell? (x.add j) = some (.int .u8 z)) := hcell
    clear hcell
    go_enter Try.func16, Try.ntmps16
    go_wp2
    go_loopw [4] (fun t wr => ∃ k : Nat, k ≤ n ∧ t = .int .i64 (k : Int) ∧ Row5 wr w.heap.size n ∧ Below w.heap.size w wr) (fun t _ => n - (intOf t).toNat)
    case atStart => exact ⟨0, by omega, rfl, row5_made w n, (Below.refl _ _).alloc (Nat.le_refl _) _⟩
    case round =>
      obtain ⟨k, hk, rfl, hrow, hbel⟩ := hrel
      clear hmk hnil
      by_cases hlt : k < n
      · obtain ⟨z, hz⟩ := HC.out k hlt
        obtain ⟨u, hu⟩ := hrow.cell k hlt
        have hf := hrow.free k
        have hz2 := cell_kept hbel (Nat.le_refl _) hz
        have hrow2 := hrow.set k (.int .u8 z)
        have hbel2 : Below w.heap.size w (wr.setCell ⟨w.heap.size, k, none⟩ (.int .u8 z)) := hbel.setCell (p := ⟨w.heap.size, k, none⟩) (Nat.le_refl _) _
        have i1 : (k : Int) < (n : Int) := by omega
        obtain ⟨xb, xo, xs⟩ := x
        have hspot : xs = none := by
          obtain ⟨z0, hz0⟩ := HC.out 0 (by omega)
          simpa [Addr.add] using World.cell?_spot hz0
        subst hspot
        have hz3 : wr.cell? ⟨xb, xo + k, none⟩ = some (.int .u8 z) := by
          have e : (⟨xb, xo, none⟩ : Addr).add k = ⟨xb, xo + k, none⟩ := by unfold Addr.add; split <;> simp_all
          rw [← e]; exact hz2
        clear hz hz2
        go_wp2
        go_roundw
        case rel => exact ⟨k + 1, by omega, by go_num, hrow2, hbel2⟩
        case measure => simp [intOf]; omega
      · have i1 : ¬ (k : Int) < (n : Int) := by omega
        go_wp2
        go_ret
        exact ⟨⟨_, _, rfl⟩, hbel⟩
end Go.Proofs.Qxb6616796a
