/-
  (*bytes.Buffer).empty, Reset, Read; (*bufio.Reader).readErr: the walks.
-/
import Derived.Test.Qxb6616818aFmtProg
import Derived.Test.Qxb6616818aFmtCopy
import Derived.WalkSpells
import Derived.RegionTactic
import Derived.Deep.QuietTactic
import Derived.BigQuiet
namespace Go.Proofs.Qxb6616818aFmt
open Go.RowKit

set_option maxHeartbeats 1000000 in
set_option maxRecDepth 100000 in
theorem empty_any (B : Nat) (a : Option Addr) (l c off : Nat) (lr : Int) (w : World) (hr : Row w B 77 [.slice a l c, .int .i64 (off : Int), .int .i8 lr]) :
    Calls Tryf.prog 77 #[.pointer (some ⟨B, 0, none⟩)] w fun e w' => e = .returned (.bool (decide (l ≤ off))) ∧ ∃ q, w' = w.drewN q := by
  have c0 : w.cell? ⟨B, 0, none⟩ = some (.slice a l c) := hr.cell 0
  have c1 : w.cell? ⟨B, 1, none⟩ = some (.int .i64 (off : Int)) := hr.cell 1
  clear hr
  go_enter Tryf.func77, Tryf.ntmps77
  go_wp2
  go_quiet (fail)
  go_wp2
  go_ret
  exact ⟨rfl, _, rfl⟩

set_option maxHeartbeats 1000000 in
set_option maxRecDepth 100000 in
theorem readErr_nil (R : Nat) (v0 v1 v2 v3 v5 v6 : Value) (w : World) (hr : Row w R 113 [v0, v1, v2, v3, .nilIface, v5, v6]) :
    Calls Tryf.prog 87 #[.pointer (some ⟨R, 0, none⟩)] w fun e w' => e = .returned .nilIface ∧ w.setCell ⟨R, 4, none⟩ .nilIface = w' := by
  have c4 : w.cell? ⟨R, 4, none⟩ = some .nilIface := hr.cell 4
  have f4 := hr.free 4
  clear hr
  go_enter Tryf.func87, Tryf.ntmps87
  go_wp2
  go_ret
  exact ⟨rfl, rfl⟩

set_option maxHeartbeats 1000000 in
set_option maxRecDepth 100000 in
theorem readErr_err (R : Nat) (v0 v1 v2 v3 v5 v6 : Value) (t : TypeId) (x : Value) (w : World) (hr : Row w R 113 [v0, v1, v2, v3, .iface t x, v5, v6]) :
    Calls Tryf.prog 87 #[.pointer (some ⟨R, 0, none⟩)] w fun e w' => e = .returned (.iface t x) ∧ w.setCell ⟨R, 4, none⟩ .nilIface = w' := by
  have c4 : w.cell? ⟨R, 4, none⟩ = some (.iface t x) := hr.cell 4
  have f4 := hr.free 4
  clear hr
  go_enter Tryf.func87, Tryf.ntmps87
  go_wp2
  go_ret
  exact ⟨rfl, rfl⟩

set_option maxHeartbeats 1000000 in
set_option maxRecDepth 100000 in
theorem reset_nil (B : Nat) (off : Nat) (lr : Int) (w : World) (hr : Row w B 77 [.slice none 0 0, .int .i64 (off : Int), .int .i8 lr]) :
    Calls Tryf.prog 74 #[.pointer (some ⟨B, 0, none⟩)] w fun e w' => e = .returned (.tuple #[]) ∧ Row w' B 77 [.slice none 0 0, .int .i64 0, .int .i8 0] ∧ Keep (fun k => k = B) w w' := by
  have c0 : w.cell? ⟨B, 0, none⟩ = some (.slice none 0 0) := hr.cell 0
  have c1 : w.cell? ⟨B, 1, none⟩ = some (.int .i64 (off : Int)) := hr.cell 1
  have c2 : w.cell? ⟨B, 2, none⟩ = some (.int .i8 lr) := hr.cell 2
  have f0 := hr.free 0
  have f1 := hr.free 1
  have f2 := hr.free 2
  have HR : Hid (Row w B 77 [.slice none 0 0, .int .i64 (off : Int), .int .i8 lr]) := hr
  clear hr
  go_enter Tryf.func74, Tryf.ntmps74
  go_wp2
  go_end0
  refine ⟨rfl, ?_, ?_⟩
  · exact ((HR.out.set 0 _).set 1 _).set 2 _
  · exact Keep.setCell (Keep.setCell (Keep.setCell (Keep.refl (fun k => k = B) w) (fun _ => rfl) _) (fun _ => rfl) _) (fun _ => rfl) _

set_option maxHeartbeats 1000000 in
set_option maxRecDepth 100000 in
theorem reset_some (B G : Nat) (l c off : Nat) (lr : Int) (w : World) (hr : Row w B 77 [.slice (some ⟨G, 0, none⟩) l c, .int .i64 (off : Int), .int .i8 lr]) :
    Calls Tryf.prog 74 #[.pointer (some ⟨B, 0, none⟩)] w fun e w' => e = .returned (.tuple #[]) ∧ Row w' B 77 [.slice (some ⟨G, 0, none⟩) 0 c, .int .i64 0, .int .i8 0] ∧ Keep (fun k => k = B) w w' := by
  have c0 : w.cell? ⟨B, 0, none⟩ = some (.slice (some ⟨G, 0, none⟩) l c) := hr.cell 0
  have c1 : w.cell? ⟨B, 1, none⟩ = some (.int .i64 (off : Int)) := hr.cell 1
  have c2 : w.cell? ⟨B, 2, none⟩ = some (.int .i8 lr) := hr.cell 2
  have f0 := hr.free 0
  have f1 := hr.free 1
  have f2 := hr.free 2
  have HR : Hid (Row w B 77 [.slice (some ⟨G, 0, none⟩) l c, .int .i64 (off : Int), .int .i8 lr]) := hr
  clear hr
  go_enter Tryf.func74, Tryf.ntmps74
  go_wp2
  go_end0
  refine ⟨rfl, ?_, ?_⟩
  · exact ((HR.out.set 0 _).set 1 _).set 2 _
  · exact Keep.setCell (Keep.setCell (Keep.setCell (Keep.refl (fun k => k = B) w) (fun _ => rfl) _) (fun _ => rfl) _) (fun _ => rfl) _
end Go.Proofs.Qxb6616818aFmt
