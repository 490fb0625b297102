/-
  (*bufio.Reader).Read, its room empty, the slice shorter than the room: the room is filled from the bytes.Buffer first.
-/
import Derived.Test.Qxb6616818aFmtRdBig
namespace Go.Proofs.Qxb6616818aFmt
open Go.RowKit

theorem nil_buf (a : Addr) (w : World) : (nilAhead 242 25 (.pointer (some a)) "Read").run Tryf.prog w = .ok (some false) w := by kernel_rfl
theorem nil_rd (a : Addr) (w : World) : (nilAhead 242 56 (.pointer (some a)) "Read").run Tryf.prog w = .ok (some false) w := by kernel_rfl

theorem feed {p q : Prop} (h : p) (k : p → q) : q := k h

set_option maxHeartbeats 2000000 in
set_option maxRecDepth 100000 in
theorem rd_small_end (R Q B G b o m cap r : Nat) (lb lr : Int) (tE : TypeId) (aE : Addr) (hm : 0 < m) (hm2 : m < 4096) (w : World) (hRB : R ≠ B) (hRG : R ≠ G) (hB1 : B ≠ 1) (hR1 : R ≠ 1)
    (hE : w.cell? ⟨1, 0, none⟩ = some (.iface tE (.pointer (some aE))))
    (hR : Row w R 113 [.slice (some ⟨Q, 0, none⟩) 4096 4096, .iface 25 (.pointer (some ⟨B, 0, none⟩)), .int .i64 (r : Int), .int .i64 (r : Int), .nilIface, .int .i64 lb, .int .i64 lr])
    (hB : Buf w B G []) :
    Calls Tryf.prog 84 #[.pointer (some ⟨R, 0, none⟩), .slice (some ⟨b, o, none⟩) m cap] w fun e w' => e = .returned (.tuple #[.int .i64 0, .iface tE (.pointer (some aE))]) ∧
      Row w' R 113 [.slice (some ⟨Q, 0, none⟩) 4096 4096, .iface 25 (.pointer (some ⟨B, 0, none⟩)), .int .i64 0, .int .i64 0, .nilIface, .int .i64 lb, .int .i64 lr] ∧
      Buf w' B G [] ∧ Keep (fun k => k = R ∨ k = B) w w' := by
  have hm0 : ((m : Int) == 0) = false := by rw [beq_eq_false_iff_ne]; omega
  have c0 : w.cell? ⟨R, 0, none⟩ = some (.slice (some ⟨Q, 0, none⟩) 4096 4096) := hR.cell 0
  have c1 : w.cell? ⟨R, 1, none⟩ = some (.iface 25 (.pointer (some ⟨B, 0, none⟩))) := hR.cell 1
  have c2 : w.cell? ⟨R, 2, none⟩ = some (.int .i64 (r : Int)) := hR.cell 2
  have c3 : w.cell? ⟨R, 3, none⟩ = some (.int .i64 (r : Int)) := hR.cell 3
  have c4 : w.cell? ⟨R, 4, none⟩ = some .nilIface := hR.cell 4
  have f2 := hR.free 2
  have f3 := hR.free 3
  have i1 : ¬ (4096 : Int) ≤ (m : Int) := by omega
  have hme := method_buf
  have hnl := nil_buf
  go_enter Tryf.func84, Tryf.ntmps84
  go_wp2
  go_quiet (fail)
  go_wp2_with fail
  have hR2 := ((hR.drewN nq).set 2 (.int .i64 0)).set 3 (.int .i64 0)
  have hk2 : Keep (fun k => k = R ∨ k = B) w (((w.drewN nq).setCell ⟨R, 2, none⟩ (.int .i64 0)).setCell ⟨R, 3, none⟩ (.int .i64 0)) := Keep.setCell (Keep.setCell ((Keep.refl (fun k => k = R ∨ k = B) w).drewN nq) (p := ⟨R, 2, none⟩) (fun _ => .inl rfl) (.int .i64 0)) (p := ⟨R, 3, none⟩) (fun _ => .inl rfl) (.int .i64 0)
  have hkr : Keep (fun k => k = R) w (((w.drewN nq).setCell ⟨R, 2, none⟩ (.int .i64 0)).setCell ⟨R, 3, none⟩ (.int .i64 0)) := Keep.setCell (Keep.setCell ((Keep.refl (fun k => k = R) w).drewN nq) (p := ⟨R, 2, none⟩) (fun _ => rfl) (.int .i64 0)) (p := ⟨R, 3, none⟩) (fun _ => rfl) (.int .i64 0)
  have hE2 := hkr.cell hE (Ne.symm hR1)
  have hB2 := hB.keep hkr (Ne.symm hRB) (Ne.symm hRG)
  clear c0 c1 c2 c3 c4 f2 f3 hR hB hE hkr
  generalize ((w.drewN nq).setCell ⟨R, 2, none⟩ (.int .i64 0)).setCell ⟨R, 3, none⟩ (.int .i64 0) = w1 at *
  have c0 : w1.cell? ⟨R, 0, none⟩ = some (.slice (some ⟨Q, 0, none⟩) 4096 4096) := hR2.cell 0
  have c1 : w1.cell? ⟨R, 1, none⟩ = some (.iface 25 (.pointer (some ⟨B, 0, none⟩))) := hR2.cell 1
  have c4 : w1.cell? ⟨R, 4, none⟩ = some .nilIface := hR2.cell 4
  have f4 := hR2.free 4
  have d0 : w1.drew.cell? ⟨R, 0, none⟩ = some (.slice (some ⟨Q, 0, none⟩) 4096 4096) := c0
  have d1 : w1.drew.cell? ⟨R, 1, none⟩ = some (.iface 25 (.pointer (some ⟨B, 0, none⟩))) := c1
  have d4 : w1.drew.cell? ⟨R, 4, none⟩ = some .nilIface := c4
  have HR2 := Hid.mk' hR2
  clear hR2
  go_region_held3 (fun w' => w'.cell? ⟨R, 0, none⟩ = some (.slice (some ⟨Q, 0, none⟩) 4096 4096) ∧ w'.cell? ⟨R, 1, none⟩ = some (.iface 25 (.pointer (some ⟨B, 0, none⟩))))
    (first | exact ⟨d0, d1⟩ | exact ⟨hk3.cell d0 hRB, hk3.cell d1 hRB⟩ | exact ⟨(World.cell?_setCell_other w2 ⟨R, 4, none⟩ ⟨R, 0, none⟩ _ (by simp)).trans (hk3.cell d0 hRB), (World.cell?_setCell_other w2 ⟨R, 4, none⟩ ⟨R, 1, none⟩ _ (by simp)).trans (hk3.cell d1 hRB)⟩)
    ((go_at_call 73; refine (bufRead_end B G Q 0 4096 4096 tE (.pointer (some aE)) (by omega) (by omega) w1.drew hB1 hE2 (hB2.keep ((Keep.refl (fun _ => False) w1).drew) (fun h => h) (fun h => h))).mono ?_; rintro e w2 ⟨rfl, hB3, hk3⟩; refine feed (hk3.row HR2.out.drew hRB) ?_; intro hR3; have c42 : w2.cell? ⟨R, 4, none⟩ = some .nilIface := hR3.cell 4; have f42 := hR3.free 4))
  have hR4 := hR3.set 4 (.iface tE (.pointer (some aE)))
  have hk4 := Keep.setCell (hk2.drew.trans (hk3.mono (fun k _ h => .inr h))) (p := ⟨R, 4, none⟩) (fun _ => .inl rfl) (.iface tE (.pointer (some aE)))
  have hB4 := hB3.keep (Keep.setCell (Keep.refl (fun k => k = R) w2) (p := ⟨R, 4, none⟩) (fun _ => rfl) (.iface tE (.pointer (some aE)))) (Ne.symm hRB) (Ne.symm hRG)
  clear hR3 hk2 hk3 hB3 c42 f42 c0 c1 c4 f4 d0 d1 d4 HR2 hE2 hB2
  generalize w2.setCell ⟨R, 4, none⟩ (.iface tE (.pointer (some aE))) = w3 at *
  have HR4 := Hid.mk' hR4
  clear hR4
  go_wp2_with fail
  refine (readErr_err R _ _ _ _ _ _ _ _ w3 HR4.out).mono ?_
  rintro e w5 ⟨rfl, rfl⟩
  have hR5 := HR4.out.set 4 .nilIface
  have hk5 := Keep.setCell hk4 (p := ⟨R, 4, none⟩) (fun _ => .inl rfl) .nilIface
  have hB5 := hB4.keep (Keep.setCell (Keep.refl (fun k => k = R) w3) (p := ⟨R, 4, none⟩) (fun _ => rfl) .nilIface) (Ne.symm hRB) (Ne.symm hRG)
  clear HR4 hk4 hB4
  generalize w3.setCell ⟨R, 4, none⟩ .nilIface = w5 at *
  have HR5 := Hid.mk' hR5
  clear hR5
  go_wp2
  go_ret2
  exact ⟨rfl, HR5.out, hB5, hk5⟩
end Go.Proofs.Qxb6616818aFmt
