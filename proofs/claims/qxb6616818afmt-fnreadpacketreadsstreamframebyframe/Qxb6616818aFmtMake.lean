/-
  bytes.NewBuffer, bufio.NewReader, bufio.NewWriter, NewConn: the walks.
-/
import Derived.Test.Qxb6616818aFmtPack
namespace Go.Proofs.Qxb6616818aFmt
open Go.RowKit

set_option maxHeartbeats 1000000 in
set_option maxRecDepth 100000 in
theorem newbuf_any (a : Option Addr) (l c : Nat) (w : World) : Calls Tryf.prog 24 #[.slice a l c] w fun e w' => e = .returned (.pointer (some ⟨w.heap.size, 0, none⟩)) ∧ Row w' w.heap.size 77 [.slice a l c, .int .i64 0, .int .i8 0] ∧ Keep (fun _ => False) w w' := by
  go_enter Tryf.func24, Tryf.ntmps24
  go_wp2
  go_ret
  exact ⟨rfl, Row.newA _ _ _, (Keep.refl _ w).alloc _⟩

set_option maxHeartbeats 1000000 in
set_option maxRecDepth 100000 in
theorem zzbuf_any (a : Option Addr) (l c : Nat) (w : World) : Calls Tryf.prog 8 #[.slice a l c] w fun e w' => e = .returned (.pointer (some ⟨w.heap.size, 0, none⟩)) ∧ Row w' w.heap.size 77 [.slice a l c, .int .i64 0, .int .i8 0] ∧ Keep (fun _ => False) w w' := by
  have HC := Hid.mk' (newbuf_any a l c w)
  go_enter Tryf.func8, Tryf.ntmps8
  go_wp2_with fail
  refine HC.out.mono ?_
  rintro e w' ⟨rfl, h1, h2⟩
  go_wp2
  go_ret
  exact ⟨rfl, h1, h2⟩

set_option maxHeartbeats 1000000 in
set_option maxRecDepth 100000 in
theorem reset_any (R : Nat) (a : Option Addr) (l c : Nat) (x : Value) (t : TypeId) (cs : List Value) (w : World) (hlen : cs.length = 7) (hrow : Row w R 113 cs) :
    Calls Tryf.prog 55 #[.pointer (some ⟨R, 0, none⟩), .slice a l c, .iface t x] w fun e w' => e = .returned (.tuple #[]) ∧ Row w' R 113 [.slice a l c, .iface t x, .int .i64 0, .int .i64 0, .nilIface, .int .i64 (-1), .int .i64 (-1)] ∧ Keep (fun k => k = R) w w' := by
  obtain ⟨z0, z1, z2, z3, z4, z5, z6, rfl⟩ : ∃ z0 z1 z2 z3 z4 z5 z6, cs = [z0, z1, z2, z3, z4, z5, z6] := by
    match cs, hlen with
    | [z0, z1, z2, z3, z4, z5, z6], _ => exact ⟨z0, z1, z2, z3, z4, z5, z6, rfl⟩
  have HR := Hid.mk' hrow
  have c0 := hrow.cell 0
  have c1 := hrow.cell 1
  have c2 := hrow.cell 2
  have c3 := hrow.cell 3
  have c4 := hrow.cell 4
  have c5 := hrow.cell 5
  have c6 := hrow.cell 6
  have f0 := hrow.free 0
  have f1 := hrow.free 1
  have f2 := hrow.free 2
  have f3 := hrow.free 3
  have f4 := hrow.free 4
  have f5 := hrow.free 5
  have f6 := hrow.free 6
  simp at c0 c1 c2 c3 c4 c5 c6
  clear hrow hlen
  go_enter Tryf.func55, Tryf.ntmps55
  go_wp2
  go_end0
  exact ⟨rfl, ((((((HR.out.set 0 _).set 1 _).set 2 _).set 3 _).set 4 _).set 5 _).set 6 _, (((((((Keep.refl (fun k => k = R) w).setCell (fun _ => rfl) _).setCell (fun _ => rfl) _).setCell (fun _ => rfl) _).setCell (fun _ => rfl) _).setCell (fun _ => rfl) _).setCell (fun _ => rfl) _).setCell (fun _ => rfl) _⟩

theorem assert56 (v : Value) (w : World) : (Instr.typeAssert (.iface 25 v) 96 56 true).run Tryf.prog w = .ok (.tuple #[.pointer none, .bool false]) w := by kernel_rfl
theorem assert57 (v : Value) (w : World) : (Instr.typeAssert (.iface 25 v) 84 57 true).run Tryf.prog w = .ok (.tuple #[.pointer none, .bool false]) w := by kernel_rfl

set_option maxHeartbeats 1000000 in
set_option maxRecDepth 100000 in
theorem newrd_size (B : Nat) (w : World) :
    Calls Tryf.prog 45 #[.iface 25 (.pointer (some ⟨B, 0, none⟩)), .int .i64 4096] w fun e w' => ∃ R Q, e = .returned (.pointer (some ⟨R, 0, none⟩)) ∧ w.heap.size ≤ R ∧ w.heap.size ≤ Q ∧ R ≠ Q ∧
      Row w' R 113 [.slice (some ⟨Q, 0, none⟩) 4096 4096, .iface 25 (.pointer (some ⟨B, 0, none⟩)), .int .i64 0, .int .i64 0, .nilIface, .int .i64 (-1), .int .i64 (-1)] ∧ Row w' Q 5 (Zeros 4096).toList ∧ Keep (fun _ => False) w w' := by
  have hmk : ∀ w, (Instr.makeSlice 24 (.int .i64 4096) (.int .i64 4096)).run Tryf.prog w = .ok (.slice (some ⟨w.heap.size, 0, none⟩) 4096 4096) (w.alloc (.cells (Zeros 4096) 5)) := make_bytes 4096 (by omega)
  have h56 := assert56
  have hmax : max (4096 : Int) 16 = 4096 := by decide
  have hR : Row (w.alloc (.cells #[.slice none 0 0, .nilIface, .int .i64 0, .int .i64 0, .nilIface, .int .i64 0, .int .i64 0] 113)) w.heap.size 113 [.slice none 0 0, .nilIface, .int .i64 0, .int .i64 0, .nilIface, .int .i64 0, .int .i64 0] := Row.newA _ _ _
  have hk : Keep (fun _ => False) w (w.alloc (.cells #[.slice none 0 0, .nilIface, .int .i64 0, .int .i64 0, .nilIface, .int .i64 0, .int .i64 0] 113)) := (Keep.refl _ w).alloc _
  have hz : (w.alloc (.cells #[.slice none 0 0, .nilIface, .int .i64 0, .int .i64 0, .nilIface, .int .i64 0, .int .i64 0] 113)).heap.size = w.heap.size + 1 := by simp
  have HR := Hid.mk' hR
  have HK := Hid.mk' hk
  have HZ := Hid.mk' hz
  clear hR hk hz
  go_enter Tryf.func45, Tryf.ntmps45
  go_wp2_with fail
  generalize w.alloc (.cells #[.slice none 0 0, .nilIface, .int .i64 0, .int .i64 0, .nilIface, .int .i64 0, .int .i64 0] 113) = w1 at *
  have hq : Row (w1.alloc (.cells (Zeros 4096) 5)) (w.heap.size + 1) 5 (Zeros 4096).toList := by have := Row.newA w1 (Zeros 4096) 5; rw [HZ.out] at this; exact this
  have hk2 := HK.out.alloc (.cells (Zeros 4096) 5)
  have hr2 := HR.out.alloc (.cells (Zeros 4096) 5)
  generalize w1.alloc (.cells (Zeros 4096) 5) = w2 at *
  refine (reset_any w.heap.size _ _ _ _ _ _ w2 (by rfl) hr2).mono ?_
  rintro e w3 ⟨rfl, h1, h2⟩
  have hq3 : Row w3 (w.heap.size + 1) 5 (Zeros 4096).toList := h2.row hq (by omega)
  have hk3 : Keep (fun _ => False) w w3 := hk2.then h2 (fun i hi x => by omega)
  have H1 := Hid.mk' h1
  have H3 := Hid.mk' hq3
  have HK3 := Hid.mk' hk3
  clear h1 h2 hq hk2 hr2 hq3 hk3
  go_wp2
  go_ret
  exact ⟨_, _, rfl, Nat.le_refl _, Nat.le_succ _, by omega, H1.out, H3.out, HK3.out⟩

set_option maxHeartbeats 1000000 in
set_option maxRecDepth 100000 in
theorem newrd_any (B : Nat) (w : World) :
    Calls Tryf.prog 35 #[.iface 25 (.pointer (some ⟨B, 0, none⟩))] w fun e w' => ∃ R Q, e = .returned (.pointer (some ⟨R, 0, none⟩)) ∧ w.heap.size ≤ R ∧ w.heap.size ≤ Q ∧ R ≠ Q ∧
      Row w' R 113 [.slice (some ⟨Q, 0, none⟩) 4096 4096, .iface 25 (.pointer (some ⟨B, 0, none⟩)), .int .i64 0, .int .i64 0, .nilIface, .int .i64 (-1), .int .i64 (-1)] ∧ Row w' Q 5 (Zeros 4096).toList ∧ Keep (fun _ => False) w w' := by
  have HC := Hid.mk' (newrd_size B w)
  go_enter Tryf.func35, Tryf.ntmps35
  go_wp2_with fail
  refine HC.out.mono ?_
  rintro e w1 ⟨R, Q, rfl, h1, h2, h3, h4, h5, h6⟩
  have H4 := Hid.mk' h4
  have H5 := Hid.mk' h5
  have H6 := Hid.mk' h6
  clear h4 h5 h6
  go_wp2
  go_ret
  exact ⟨_, _, rfl, h1, h2, h3, H4.out, H5.out, H6.out⟩

set_option maxHeartbeats 1000000 in
set_option maxRecDepth 100000 in
theorem newwr_size (v : Value) (w : World) :
    Calls Tryf.prog 46 #[.iface 25 v, .int .i64 4096] w fun e w' => ∃ W, e = .returned (.pointer (some W)) ∧ Keep (fun _ => False) w w' := by
  have hmk : ∀ w, (Instr.makeSlice 24 (.int .i64 4096) (.int .i64 4096)).run Tryf.prog w = .ok (.slice (some ⟨w.heap.size, 0, none⟩) 4096 4096) (w.alloc (.cells (Zeros 4096) 5)) := make_bytes 4096 (by omega)
  have h57 := assert57
  go_enter Tryf.func46, Tryf.ntmps46
  go_wp2
  go_ret
  exact ⟨_, rfl, ((Keep.refl _ w).alloc _).alloc _⟩

set_option maxHeartbeats 1000000 in
set_option maxRecDepth 100000 in
theorem newwr_any (v : Value) (w : World) :
    Calls Tryf.prog 36 #[.iface 25 v] w fun e w' => ∃ W, e = .returned (.pointer (some W)) ∧ Keep (fun _ => False) w w' := by
  have HC := Hid.mk' (newwr_size v w)
  go_enter Tryf.func36, Tryf.ntmps36
  go_wp2_with fail
  refine HC.out.mono ?_
  rintro e w1 ⟨W, rfl, h1⟩
  have H1 := Hid.mk' h1
  clear h1
  go_wp2
  go_ret
  exact ⟨_, rfl, H1.out⟩

/-- the cells of a new connection -/
def ConnNew (R : Nat) (W : Addr) (mp : Int) : List Value := [.pointer (some ⟨R, 0, none⟩), .pointer (some W), .int .u8 0, .int .i64 mp, .slice none 0 0] ++ List.replicate 36 (.int .u8 0)

set_option maxHeartbeats 1000000 in
set_option maxRecDepth 100000 in
theorem newconn_any (B : Nat) (mp : Int) (w : World) :
    Calls Tryf.prog 25 #[.iface 25 (.pointer (some ⟨B, 0, none⟩)), .int .i64 mp] w fun e w' => ∃ C R Q W, e = .returned (.pointer (some ⟨C, 0, none⟩)) ∧ w.heap.size ≤ R ∧ w.heap.size ≤ Q ∧ w.heap.size ≤ C ∧ R ≠ Q ∧ C ≠ R ∧ C ≠ Q ∧
      Row w' C 61 (ConnNew R W mp) ∧ Row w' R 113 [.slice (some ⟨Q, 0, none⟩) 4096 4096, .iface 25 (.pointer (some ⟨B, 0, none⟩)), .int .i64 0, .int .i64 0, .nilIface, .int .i64 (-1), .int .i64 (-1)] ∧ Row w' Q 5 (Zeros 4096).toList ∧ Keep (fun _ => False) w w' := by
  have HC := Hid.mk' (newrd_any B w)
  go_enter Tryf.func25, Tryf.ntmps25
  go_wp2_with fail
  refine HC.out.mono ?_
  rintro e w1 ⟨R, Q, rfl, h1, h2, h3, h4, h5, h6⟩
  have H4 := Hid.mk' h4
  have H5 := Hid.mk' h5
  have H6 := Hid.mk' h6
  clear h4 h5 h6
  go_wp2_with fail
  refine (newwr_any _ w1).mono ?_
  rintro e w2 ⟨W, rfl, h7⟩
  have hR2 := h7.row H4.out (fun x => x)
  have hQ2 := h7.row H5.out (fun x => x)
  have hK2 := H6.out.trans h7
  have HR2 := Hid.mk' hR2
  have HQ2 := Hid.mk' hQ2
  have HK2 := Hid.mk' hK2
  clear h7 hR2 hQ2 hK2
  go_wp2
  go_ret
  refine ⟨_, R, Q, W, rfl, h1, h2, HK2.out.size, h3, ?_, ?_, Row.newA _ _ _, HR2.out.alloc _, HQ2.out.alloc _, HK2.out.alloc _⟩
  · have := HR2.out.lt; omega
  · have := HQ2.out.lt; omega
end Go.Proofs.Qxb6616818aFmt
