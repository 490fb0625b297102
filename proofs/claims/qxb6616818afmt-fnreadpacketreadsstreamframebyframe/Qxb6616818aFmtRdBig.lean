/-
  (*bufio.Reader).Read, its room empty, the slice at least as long as the room: straight from the bytes.Buffer.
-/
import Derived.Test.Qxb6616818aFmtRd
namespace Go.Proofs.Qxb6616818aFmt
open Go.RowKit

theorem method_buf (a : Addr) (w : World) : (method 242 25 (.pointer (some a)) "Read").run Tryf.prog w = .ok (73, .pointer (some a)) w := by kernel_rfl
theorem method_rd (a : Addr) (w : World) : (method 242 56 (.pointer (some a)) "Read").run Tryf.prog w = .ok (84, .pointer (some a)) w := by kernel_rfl

set_option maxHeartbeats 2000000 in
set_option maxRecDepth 100000 in
theorem rd_big_end (R Q B G b o m cap r : Nat) (lb lr : Int) (tE : TypeId) (aE : Addr) (hm : 4096 ≤ m) (hm2 : m ≤ 1000000000) (w : World) (hRB : R ≠ B) (hRG : R ≠ G) (hB1 : B ≠ 1)
    (hE : w.cell? ⟨1, 0, none⟩ = some (.iface tE (.pointer (some aE))))
    (hR : Row w R 113 [.slice (some ⟨Q, 0, none⟩) 4096 4096, .iface 25 (.pointer (some ⟨B, 0, none⟩)), .int .i64 (r : Int), .int .i64 (r : Int), .nilIface, .int .i64 lb, .int .i64 lr])
    (hB : Buf w B G []) :
    Calls Tryf.prog 84 #[.pointer (some ⟨R, 0, none⟩), .slice (some ⟨b, o, none⟩) m cap] w fun e w' => e = .returned (.tuple #[.int .i64 0, .iface tE (.pointer (some aE))]) ∧
      Row w' R 113 [.slice (some ⟨Q, 0, none⟩) 4096 4096, .iface 25 (.pointer (some ⟨B, 0, none⟩)), .int .i64 (r : Int), .int .i64 (r : Int), .nilIface, .int .i64 lb, .int .i64 lr] ∧
      Buf w' B G [] ∧ Keep (fun k => k = R ∨ k = B) w w' := by
  have hm0 : ((m : Int) == 0) = false := by rw [beq_eq_false_iff_ne]; omega
  have c0 : w.cell? ⟨R, 0, none⟩ = some (.slice (some ⟨Q, 0, none⟩) 4096 4096) := hR.cell 0
  have c1 : w.cell? ⟨R, 1, none⟩ = some (.iface 25 (.pointer (some ⟨B, 0, none⟩))) := hR.cell 1
  have c2 : w.cell? ⟨R, 2, none⟩ = some (.int .i64 (r : Int)) := hR.cell 2
  have c3 : w.cell? ⟨R, 3, none⟩ = some (.int .i64 (r : Int)) := hR.cell 3
  have c4 : w.cell? ⟨R, 4, none⟩ = some .nilIface := hR.cell 4
  have i1 : (4096 : Int) ≤ (m : Int) := by omega
  have hme := method_buf
  go_enter Tryf.func84, Tryf.ntmps84
  go_wp2
  go_quiet (fail)
  go_wp2_with fail
  have hk0 : Keep (fun k => k = R ∨ k = B) w (w.drewN nq) := (Keep.refl _ w).drewN nq
  refine (bufRead_end B G b o m cap tE (.pointer (some aE)) (by omega) hm2 (w.drewN nq) hB1 hE (hB.keep ((Keep.refl (fun _ => False) w).drewN nq) (fun h => h) (fun h => h))).mono ?_
  rintro e w1 ⟨rfl, hB1', hk1⟩
  have hR1 : Row w1 R 113 _ := hk1.row (hR.drewN nq) hRB
  have hk2 : Keep (fun k => k = R ∨ k = B) w w1 := hk0.trans (hk1.mono (fun k _ h => .inr h))
  clear c0 c1 c2 c3 c4
  have c4 : w1.cell? ⟨R, 4, none⟩ = some .nilIface := hR1.cell 4
  have f4 := hR1.free 4
  have HR1 := Hid.mk' hR1
  clear hR1 hR hB hE hk0 hk1
  go_wp2_with fail
  have hR2 := HR1.out.set 4 (.iface tE (.pointer (some aE)))
  have hk3 := Keep.setCell hk2 (p := ⟨R, 4, none⟩) (fun _ => .inl rfl) (.iface tE (.pointer (some aE)))
  have hB3 := hB1'.keep (Keep.setCell (Keep.refl (fun k => k = R) w1) (p := ⟨R, 4, none⟩) (fun _ => rfl) (.iface tE (.pointer (some aE)))) (Ne.symm hRB) (Ne.symm hRG)
  generalize w1.setCell ⟨R, 4, none⟩ (.iface tE (.pointer (some aE))) = w2 at *
  refine (readErr_err R _ _ _ _ _ _ _ _ w2 hR2).mono ?_
  rintro e w3 ⟨rfl, rfl⟩
  have hR3 := hR2.set 4 .nilIface
  have hk4 := Keep.setCell hk3 (p := ⟨R, 4, none⟩) (fun _ => .inl rfl) .nilIface
  have hB4 := hB3.keep (Keep.setCell (Keep.refl (fun k => k = R) w2) (p := ⟨R, 4, none⟩) (fun _ => rfl) .nilIface) (Ne.symm hRB) (Ne.symm hRG)
  generalize w2.setCell ⟨R, 4, none⟩ .nilIface = w3 at *
  go_wp2
  go_ret2
  exact ⟨rfl, hR3, hB4, hk4⟩

theorem put_at (cur : List Value) (o : Nat) (xs : List Nat) (i : Nat) (h : o ≤ cur.length) (hi : i < xs.length) : (put cur o (bv xs))[o + i]? = some (.int .u8 (xs[i] : Int)) := by
  have e := put_take cur o (bv xs) h
  have e2 := congrArg (fun l => l[o + i]?) e
  rw [List.getElem?_take, if_pos (by rw [bv_length]; omega)] at e2
  rw [e2, List.getElem?_append_right (by rw [List.length_take]; omega), List.length_take, show o + i - min o cur.length = i by omega]
  exact bv_at hi

set_option maxHeartbeats 2000000 in
set_option maxRecDepth 100000 in
theorem rd_big_some {tb : TypeId} (R Q B G b o m cap r : Nat) (lb lr : Int) (rest : List Nat) (cur : List Value) (hm : 4096 ≤ m) (hm2 : m ≤ 1000000000) (hrest : 0 < rest.length) (w : World) (hRB : R ≠ B) (hRG : R ≠ G) (hbR : b ≠ R) (hbB : b ≠ B) (hbG : b ≠ G)
    (hR : Row w R 113 [.slice (some ⟨Q, 0, none⟩) 4096 4096, .iface 25 (.pointer (some ⟨B, 0, none⟩)), .int .i64 (r : Int), .int .i64 (r : Int), .nilIface, .int .i64 lb, .int .i64 lr])
    (hB : Buf w B G rest) (hb : Row w b tb cur) (hfit : o + m ≤ cur.length) :
    Calls Tryf.prog 84 #[.pointer (some ⟨R, 0, none⟩), .slice (some ⟨b, o, none⟩) m cap] w fun e w' => e = .returned (.tuple #[.int .i64 ((min m rest.length : Nat) : Int), .nilIface]) ∧
      (∃ lb lr, Row w' R 113 [.slice (some ⟨Q, 0, none⟩) 4096 4096, .iface 25 (.pointer (some ⟨B, 0, none⟩)), .int .i64 (r : Int), .int .i64 (r : Int), .nilIface, .int .i64 lb, .int .i64 lr]) ∧
      Buf w' B G (rest.drop (min m rest.length)) ∧ Row w' b tb (put cur o (bv (rest.take (min m rest.length)))) ∧ Keep (fun k => k = R ∨ k = B ∨ k = b) w w' := by
  have hm0 : ((m : Int) == 0) = false := by rw [beq_eq_false_iff_ne]; omega
  have c0 : w.cell? ⟨R, 0, none⟩ = some (.slice (some ⟨Q, 0, none⟩) 4096 4096) := hR.cell 0
  have c1 : w.cell? ⟨R, 1, none⟩ = some (.iface 25 (.pointer (some ⟨B, 0, none⟩))) := hR.cell 1
  have c2 : w.cell? ⟨R, 2, none⟩ = some (.int .i64 (r : Int)) := hR.cell 2
  have c3 : w.cell? ⟨R, 3, none⟩ = some (.int .i64 (r : Int)) := hR.cell 3
  have c4 : w.cell? ⟨R, 4, none⟩ = some .nilIface := hR.cell 4
  have i1 : (4096 : Int) ≤ (m : Int) := by omega
  obtain ⟨s, hs⟩ : ∃ s, min m rest.length = s + 1 := ⟨min m rest.length - 1, by omega⟩
  rw [hs]
  have HSS := Hid.mk' hs
  clear hs
  have hme := method_buf
  go_enter Tryf.func84, Tryf.ntmps84
  go_wp2
  go_quiet (fail)
  go_wp2_with fail
  have hk0 : Keep (fun k => k = R ∨ k = B ∨ k = b) w (w.drewN nq) := (Keep.refl _ w).drewN nq
  have hcall := bufRead_some B G b o m cap rest cur (by omega) hm2 hrest (w.drewN nq) hbB hbG (hb.drewN nq) hfit (hB.keep ((Keep.refl (fun _ => False) w).drewN nq) (fun h => h) (fun h => h))
  have hs := HSS.out
  rw [hs] at hcall
  refine hcall.mono ?_
  rintro e w1 ⟨rfl, hB1, hb1, hk1⟩
  have hR1 : Row w1 R 113 _ := hk1.row (hR.drewN nq) (fun h => by rcases h with h | h <;> omega)
  have hk2 : Keep (fun k => k = R ∨ k = B ∨ k = b) w w1 := hk0.trans (hk1.mono (fun k _ h => .inr h))
  have hcell : w1.cell? ⟨b, o + s, none⟩ = some (.int .u8 ((rest.take (s + 1))[s]'(by rw [List.length_take]; omega) : Int)) := (hb1.cell _).trans (put_at cur o _ s (by omega) (by rw [List.length_take]; omega))
  generalize (rest.take (s + 1))[s]'(by rw [List.length_take]; omega) = z at hcell
  clear c0 c1 c2 c3 c4
  have c4 : w1.cell? ⟨R, 4, none⟩ = some .nilIface := hR1.cell 4
  have f4 := hR1.free 4
  have c5 : w1.cell? ⟨R, 5, none⟩ = some (.int .i64 lb) := hR1.cell 5
  have f5 := hR1.free 5
  have c6 : w1.cell? ⟨R, 6, none⟩ = some (.int .i64 lr) := hR1.cell 6
  have f6 := hR1.free 6
  have HR1 := Hid.mk' hR1
  have i2 : (s : Int) < (m : Int) := by omega
  have i3 : (0 : Int) ≤ (s : Int) := by omega
  have i4 : (0 : Int) < (s : Int) + 1 := by omega
  have hRb : R ≠ b := Ne.symm hbR
  clear hR1 hR hB hb hk0 hk1 hs hcall
  go_wp2_with fail
  have hR2 := ((HR1.out.set 4 .nilIface).set 5 (.int .i64 (wrap64 (z : Int)))).set 6 (.int .i64 (-1))
  have hk3 := Keep.setCell (Keep.setCell (Keep.setCell hk2 (p := ⟨R, 4, none⟩) (fun _ => .inl rfl) .nilIface) (p := ⟨R, 5, none⟩) (fun _ => .inl rfl) (.int .i64 (wrap64 (z : Int)))) (p := ⟨R, 6, none⟩) (fun _ => .inl rfl) (.int .i64 (-1))
  have hkr := Keep.setCell (Keep.setCell (Keep.setCell (Keep.refl (fun k => k = R) w1) (p := ⟨R, 4, none⟩) (fun _ => rfl) .nilIface) (p := ⟨R, 5, none⟩) (fun _ => rfl) (.int .i64 (wrap64 (z : Int)))) (p := ⟨R, 6, none⟩) (fun _ => rfl) (.int .i64 (-1))
  have hB2 := hB1.keep hkr (Ne.symm hRB) (Ne.symm hRG)
  have hb2 := hkr.row hb1 hbR
  clear hkr HR1 hk2 hB1 hb1 c4 f4 c5 f5 c6 f6 hcell
  generalize ((w1.setCell ⟨R, 4, none⟩ .nilIface).setCell ⟨R, 5, none⟩ (.int .i64 (wrap64 (z : Int)))).setCell ⟨R, 6, none⟩ (.int .i64 (-1)) = w2 at *
  refine (readErr_nil R _ _ _ _ _ _ w2 hR2).mono ?_
  rintro e w3 ⟨rfl, rfl⟩
  have hR3 := hR2.set 4 .nilIface
  have hk4 := Keep.setCell hk3 (p := ⟨R, 4, none⟩) (fun _ => .inl rfl) .nilIface
  have hkr := Keep.setCell (Keep.refl (fun k => k = R) w2) (p := ⟨R, 4, none⟩) (fun _ => rfl) .nilIface
  have hB4 := hB2.keep hkr (Ne.symm hRB) (Ne.symm hRG)
  have hb4 := hkr.row hb2 hbR
  clear hkr hR2 hk3 hB2 hb2
  generalize w2.setCell ⟨R, 4, none⟩ .nilIface = w3 at *
  have HR3 := Hid.mk' hR3
  clear hR3
  go_wp2
  go_ret2
  exact ⟨rfl, ⟨_, _, HR3.out⟩, hB4, hb4, hk4⟩
end Go.Proofs.Qxb6616818aFmt
