/-
  newDues, ZZnewDues, ZZduesAnswered, ZZduesBatch: the walks.
-/
import Derived.Test.Qxb6616714aProg
import Derived.WalkKit
import Derived.WalkLawsBesides
namespace Go.Proofs.Qxb6616714a
open Go.RowKit

/-- n times false, as make lays them -/
def Falses (n : Nat) : Array Value := madeCells #[.bool false] n

theorem Try.info4 : (Try.prog.info? 4).map (fun i => (i.zero, i.size, i.bytes)) = some (some (.bool false), 1, 1) := by kernel_rfl

theorem make_bools (n : Nat) (hn : n ≤ 65536) (w : World) :
    (Instr.makeSlice 60 (.int .i64 (n : Int)) (.int .i64 (n : Int))).run Try.prog w = .ok (.slice (some ⟨w.heap.size, 0, none⟩) n n) (w.alloc (.cells (Falses n) 4)) := by
  obtain ⟨i0, hi, hz0, hz1, hz2⟩ := info_parts Try.info4
  have h := run_make (P := Try.prog) w 60 4 i0 (.bool false) Try.underlying60 hi hz0 .i64 .i64 (n : Int) (n : Int) (by omega) (by omega) (by rw [hz2]; omega) (by omega)
  rw [hz1] at h
  simpa [Falses, Value.cells] using h

theorem falses_at (n j : Nat) (h : j < n) : (Falses n)[j]? = some (.bool false) := by
  simp [Falses, madeCells, h, Nat.mod_one]

theorem cell_at {w : World} {b : Nat} {c : Array Value} {t : TypeId} {fr : Nat × Nat} (o : Nat) (h : w.heap[b]? = some (.cells c t fr)) : w.cell? ⟨b, o, none⟩ = c[o]? := by
  unfold World.cell?; simp only [h]; rfl
theorem frozen_at {w : World} {b : Nat} {c : Array Value} {t : TypeId} (o : Nat) (h : w.heap[b]? = some (.cells c t (0, 0))) : w.frozen? ⟨b, o, none⟩ = false := by
  unfold World.frozen?; simp only [h]; simp

theorem heap_two (w : World) (o1 o2 : Obj) : ((w.alloc o1).alloc o2).heap[w.heap.size]? = some o1 ∧ ((w.alloc o1).alloc o2).heap[w.heap.size + 1]? = some o2 := by
  have ha : (w.alloc o1).heap.size = w.heap.size + 1 := by simp
  refine ⟨?_, ?_⟩
  · rw [heap_alloc_old _ _ (by omega)]; exact heap_alloc_new w o1
  · have := heap_alloc_new (w.alloc o1) o2
    rw [ha] at this; exact this

set_option maxHeartbeats 400000 in
set_option maxRecDepth 100000 in
theorem dues_any (ao : Option Addr) (n cap : Nat) (hn : n ≤ 65536) (w : World) :
    Calls Try.prog 29 #[.slice ao n cap] w fun e w' => e = .returned (.pointer (some ⟨w.heap.size + 1, 0, none⟩)) ∧ w' = ((w.alloc (.cells (Falses n) 4)).alloc (.cells #[.slice ao n cap, .slice (some ⟨w.heap.size, 0, none⟩) n n] 127)) := by
  have hmk := make_bools n hn
  go_enter Try.func29, Try.ntmps29
  go_wp2
  go_ret
  exact ⟨rfl, rfl⟩

/-- What a caller knows behind newDues. -/
structure Made (ao : Option Addr) (n cap D F : Nat) (w w' : World) : Prop where
  below : Below w.heap.size w w'
  lo : w.heap.size ≤ F
  lt : F < D
  hi : D < w'.heap.size
  batch : w'.cell? ⟨D, 0, none⟩ = some (.slice ao n cap)
  marks : w'.cell? ⟨D, 1, none⟩ = some (.slice (some ⟨F, 0, none⟩) n n)
  no : ∀ j, j < n → w'.cell? ⟨F, j, none⟩ = some (.bool false)
  free : ∀ j, w'.frozen? ⟨F, j, none⟩ = false

theorem dues_made (ao : Option Addr) (n cap : Nat) (hn : n ≤ 65536) (w : World) :
    Calls Try.prog 29 #[.slice ao n cap] w fun e w' => ∃ D F, e = .returned (.pointer (some ⟨D, 0, none⟩)) ∧ Made ao n cap D F w w' := by
  refine (dues_any ao n cap hn w).mono ?_
  rintro e w' ⟨rfl, rfl⟩
  obtain ⟨e1, e2⟩ := heap_two w (.cells (Falses n) 4) (.cells #[.slice ao n cap, .slice (some ⟨w.heap.size, 0, none⟩) n n] 127)
  refine ⟨w.heap.size + 1, w.heap.size, rfl, ?_, Nat.le_refl _, by omega, by simp, ?_, ?_, ?_, ?_⟩
  · exact ((Below.refl _ _).alloc (Nat.le_refl _) _).alloc (by simp) _
  · rw [cell_at 0 e2]; rfl
  · rw [cell_at 1 e2]; rfl
  · intro j hj
    rw [cell_at j e1]; exact falses_at n j hj
  · intro j
    exact frozen_at j e1
end Go.Proofs.Qxb6616714a
