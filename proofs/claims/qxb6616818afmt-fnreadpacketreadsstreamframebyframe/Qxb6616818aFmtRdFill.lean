/-
  (*bufio.Reader).Read, its room empty, the slice shorter than the room, something left: the room is filled, then read.
-/
import Derived.Test.Qxb6616818aFmtRdSmall
namespace Go.Proofs.Qxb6616818aFmt
open Go.RowKit

set_option maxHeartbeats 4000000 in
set_option maxRecDepth 100000 in
theorem rd_fill {tb : TypeId} (R Q B G b o m cap r : Nat) (lb lr : Int) (rm cur : List Value) (rest : List Nat) (hm : 0 < m) (hm2 : m < 4096) (hrest : 0 < rest.length) (w : World) (hRB : R ≠ B) (hRG : R ≠ G) (hRQ : R ≠ Q) (hQB : Q ≠ B) (hQG : Q ≠ G) (hbR : b ≠ R) (hbQ : b ≠ Q) (hbB : b ≠ B) (hbG : b ≠ G)
    (hR : Row w R 113 [.slice (some ⟨Q, 0, none⟩) 4096 4096, .iface 25 (.pointer (some ⟨B, 0, none⟩)), .int .i64 (r : Int), .int .i64 (r : Int), .nilIface, .int .i64 lb, .int .i64 lr])
    (hQ : Row w Q 5 rm) (hrl : rm.length = 4096) (hB : Buf w B G rest) (hb : Row w b tb cur) (hfit : o + m ≤ cur.length) (v n : Nat) (hv : min 4096 rest.length = v) (hn : min m v = n) :
    Calls Tryf.prog 84 #[.pointer (some ⟨R, 0, none⟩), .slice (some ⟨b, o, none⟩) m cap] w fun e w' => e = .returned (.tuple #[.int .i64 (n : Int), .nilIface]) ∧
      (∃ lb lr, Row w' R 113 [.slice (some ⟨Q, 0, none⟩) 4096 4096, .iface 25 (.pointer (some ⟨B, 0, none⟩)), .int .i64 (n : Int), .int .i64 (v : Int), .nilIface, .int .i64 lb, .int .i64 lr]) ∧
      Row w' Q 5 (put rm 0 (bv (rest.take v))) ∧ Buf w' B G (rest.drop v) ∧ Row w' b tb (put cur o (bv (rest.take n))) ∧ Keep (fun k => k = R ∨ k = Q ∨ k = B ∨ k = b) w w' := by
  obtain ⟨s, hs⟩ : ∃ s, n = s + 1 := ⟨n - 1, by omega⟩
  obtain ⟨z, hz⟩ : ∃ z : Nat, (put rm 0 (bv (rest.take v)))[s]? = some (.int .u8 (z : Int)) := by
    have h1 := put_at rm 0 (rest.take v) s (by omega) (by rw [List.length_take]; omega)
    rw [Nat.zero_add] at h1
    exact ⟨_, h1⟩
  have hm0 : ((m : Int) == 0) = false := by rw [beq_eq_false_iff_ne]; omega
  have hv0 : ((v : Int) == 0) = false := by rw [beq_eq_false_iff_ne]; omega
  have c0 : w.cell? ⟨R, 0, none⟩ = some (.slice (some ⟨Q, 0, none⟩) 4096 4096) := hR.cell 0
  have c1 : w.cell? ⟨R, 1, none⟩ = some (.iface 25 (.pointer (some ⟨B, 0, none⟩))) := hR.cell 1
  have c2 : w.cell? ⟨R, 2, none⟩ = some (.int .i64 (r : Int)) := hR.cell 2
  have c3 : w.cell? ⟨R, 3, none⟩ = some (.int .i64 (r : Int)) := hR.cell 3
  have c4 : w.cell? ⟨R, 4, none⟩ = some .nilIface := hR.cell 4
  have f2 := hR.free 2
  have f3 := hR.free 3
  have i1 : ¬ (4096 : Int) ≤ (m : Int) := by omega
  have i2 : (0 : Int) ≤ (v : Int) := by omega
  have i3 : (v : Int) ≤ 4096 := by omega
  have HV := Hid.mk' hv
  have HN := Hid.mk' hn
  have HS := Hid.mk' hs
  have HZ := Hid.mk' hz
  clear hv hn hs hz
  have hme := method_buf
  have hnl := nil_buf
  go_enter Tryf.func84, Tryf.ntmps84
  go_wp2
  go_quiet (fail)
  go_wp2_with fail
  have hR2 := ((hR.drewN nq).set 2 (.int .i64 0)).set 3 (.int .i64 0)
  have hk2 : Keep (fun k => k = R ∨ k = Q ∨ k = B ∨ k = b) w (((w.drewN nq).setCell ⟨R, 2, none⟩ (.int .i64 0)).setCell ⟨R, 3, none⟩ (.int .i64 0)) := Keep.setCell (Keep.setCell ((Keep.refl (fun k => k = R ∨ k = Q ∨ k = B ∨ k = b) w).drewN nq) (p := ⟨R, 2, none⟩) (fun _ => .inl rfl) (.int .i64 0)) (p := ⟨R, 3, none⟩) (fun _ => .inl rfl) (.int .i64 0)
  have hkr : Keep (fun k => k = R) w (((w.drewN nq).setCell ⟨R, 2, none⟩ (.int .i64 0)).setCell ⟨R, 3, none⟩ (.int .i64 0)) := Keep.setCell (Keep.setCell ((Keep.refl (fun k => k = R) w).drewN nq) (p := ⟨R, 2, none⟩) (fun _ => rfl) (.int .i64 0)) (p := ⟨R, 3, none⟩) (fun _ => rfl) (.int .i64 0)
  have hB2 := hB.keep hkr (Ne.symm hRB) (Ne.symm hRG)
  have hQ2 := hkr.row hQ (Ne.symm hRQ)
  have hb2 := hkr.row hb hbR
  clear c0 c1 c2 c3 c4 f2 f3 hR hB hQ hb hkr
  generalize ((w.drewN nq).setCell ⟨R, 2, none⟩ (.int .i64 0)).setCell ⟨R, 3, none⟩ (.int .i64 0) = w1 at *
  have c0 : w1.cell? ⟨R, 0, none⟩ = some (.slice (some ⟨Q, 0, none⟩) 4096 4096) := hR2.cell 0
  have c1 : w1.cell? ⟨R, 1, none⟩ = some (.iface 25 (.pointer (some ⟨B, 0, none⟩))) := hR2.cell 1
  have d0 : w1.drew.cell? ⟨R, 0, none⟩ = some (.slice (some ⟨Q, 0, none⟩) 4096 4096) := c0
  have d1 : w1.drew.cell? ⟨R, 1, none⟩ = some (.iface 25 (.pointer (some ⟨B, 0, none⟩))) := c1
  have HR2 := Hid.mk' hR2
  have hcall := bufRead_some B G Q 0 4096 4096 rest rm (by omega) (by omega) hrest w1.drew hQB hQG hQ2.drew (by omega) (hB2.keep ((Keep.refl (fun _ => False) w1).drew) (fun h => h) (fun h => h))
  rw [HV.out] at hcall
  have HC := Hid.mk' hcall
  have hRBQ : ¬ (R = B ∨ R = Q) := by rintro (h | h) <;> omega
  clear hR2 hcall
  go_region_held3 (fun w' => w'.cell? ⟨R, 0, none⟩ = some (.slice (some ⟨Q, 0, none⟩) 4096 4096) ∧ w'.cell? ⟨R, 1, none⟩ = some (.iface 25 (.pointer (some ⟨B, 0, none⟩))))
    (first | exact ⟨d0, d1⟩ | exact ⟨hk3.cell d0 hRBQ, hk3.cell d1 hRBQ⟩ | exact ⟨(World.cell?_setCell_other w2 ⟨R, 4, none⟩ ⟨R, 0, none⟩ _ (by simp)).trans (hk3.cell d0 hRBQ), (World.cell?_setCell_other w2 ⟨R, 4, none⟩ ⟨R, 1, none⟩ _ (by simp)).trans (hk3.cell d1 hRBQ)⟩)
    ((go_at_call 73; refine HC.out.mono ?_; rintro e w2 ⟨rfl, hB3, hQ3, hk3⟩; refine feed (hk3.row HR2.out.drew hRBQ) ?_; intro hR3; have c42 : w2.cell? ⟨R, 4, none⟩ = some .nilIface := hR3.cell 4; have f42 := hR3.free 4))
  have hR4 := hR3.set 4 .nilIface
  have hk4 := Keep.setCell (hk2.drew.trans (hk3.mono (fun k _ h => by rcases h with h | h; exact .inr (.inr (.inl h)); exact .inr (.inl h)))) (p := ⟨R, 4, none⟩) (fun _ => .inl rfl) .nilIface
  have hkr := Keep.setCell (Keep.refl (fun k => k = R) w2) (p := ⟨R, 4, none⟩) (fun _ => rfl) .nilIface
  have hB4 := hB3.keep hkr (Ne.symm hRB) (Ne.symm hRG)
  have hQ4 := hkr.row hQ3 (Ne.symm hRQ)
  have hb4 := hkr.row (hk3.row hb2.drew (fun h => by rcases h with h | h <;> omega)) hbR
  clear hR3 hk2 hk3 hB3 hQ3 c42 f42 c0 c1 d0 d1 HR2 hB2 hQ2 hb2 hkr HC
  generalize w2.setCell ⟨R, 4, none⟩ .nilIface = w3 at *
  have c3 : w3.cell? ⟨R, 3, none⟩ = some (.int .i64 0) := hR4.cell 3
  have f3 := hR4.free 3
  have HR4 := Hid.mk' hR4
  clear hR4
  go_wp2
  have hR5 := HR4.out.set 3 (.int .i64 (v : Int))
  have hk5 := Keep.setCell hk4 (p := ⟨R, 3, none⟩) (fun _ => .inl rfl) (.int .i64 (v : Int))
  have hkr := Keep.setCell (Keep.refl (fun k => k = R) w3) (p := ⟨R, 3, none⟩) (fun _ => rfl) (.int .i64 (v : Int))
  have hB5 := hB4.keep hkr (Ne.symm hRB) (Ne.symm hRG)
  have hQ5 := hkr.row hQ4 (Ne.symm hRQ)
  have hb5 := hkr.row hb4 hbR
  clear hkr HR4 hk4 hB4 hQ4 hb4 c3 f3
  generalize w3.setCell ⟨R, 3, none⟩ (.int .i64 (v : Int)) = w4 at *
  have hsrc := row_src hQ5 0 (bv (rest.take n)) (fun j x hj => by
    have hn := HN.out
    have hjl : j < (rest.take n).length := by have := (List.getElem?_eq_some_iff.1 hj).1; rwa [bv_length] at this
    rw [List.length_take] at hjl
    rw [put_at rm 0 (rest.take v) j (by omega) (by rw [List.length_take]; omega)]
    rw [bv_at (by rw [List.length_take]; omega)] at hj
    rw [← hj]
    simp only [List.getElem_take])
  have hxl : (bv (rest.take n)).length = n := by have := HN.out; have := HV.out; rw [bv_length, List.length_take]; omega
  have HM : Hid ((bv (rest.take n)).length = Nat.min v m) := by show _ = _; rw [hxl, ← HN.out]; show min _ _ = min _ _; omega
  have HL := Hid.mk' hxl
  have HF : Hid (o + (bv (rest.take n)).length ≤ cur.length) := by have := HN.out; show _ ≤ _; omega
  have HO : Hid (∀ x ∈ bv (rest.take n), x.oneCell' = true) := bv_one _
  have HSR := Hid.mk' hsrc
  clear hsrc hxl
  generalize hX : bv (rest.take n) = X at *
  have HX := Hid.mk' hX
  clear hX
  have c0 : w4.cell? ⟨R, 0, none⟩ = some (.slice (some ⟨Q, 0, none⟩) 4096 4096) := hR5.cell 0
  have c2 : w4.cell? ⟨R, 2, none⟩ = some (.int .i64 0) := hR5.cell 2
  have c3 : w4.cell? ⟨R, 3, none⟩ = some (.int .i64 (v : Int)) := hR5.cell 3
  have d0 : w4.drew.cell? ⟨R, 0, none⟩ = some (.slice (some ⟨Q, 0, none⟩) 4096 4096) := c0
  have d2 : w4.drew.cell? ⟨R, 2, none⟩ = some (.int .i64 0) := c2
  have d3 : w4.drew.cell? ⟨R, 3, none⟩ = some (.int .i64 (v : Int)) := c3
  have HR5 := Hid.mk' hR5
  clear hR5
  go_region_held3 (fun w' => w'.cell? ⟨R, 0, none⟩ = some (.slice (some ⟨Q, 0, none⟩) 4096 4096) ∧ w'.cell? ⟨R, 2, none⟩ = some (.int .i64 0) ∧ w'.cell? ⟨R, 3, none⟩ = some (.int .i64 (v : Int)))
    (first | exact ⟨d0, d2, d3⟩ | exact ⟨(cell_setRow_other _ _ _ _ (Ne.symm hbR)).trans d0, (cell_setRow_other _ _ _ _ (Ne.symm hbR)).trans d2, (cell_setRow_other _ _ _ _ (Ne.symm hbR)).trans d3⟩)
    (refine step_copy_put (by rfl) (.tmp 109) (.tmp 122) 24 24 (by rfl) 5 Tryf.underlying24 Tryf.size5 b o m cap ⟨Q, 0, none⟩ v 4096 (by rfl) (by rfl) cur tb (hb5.drew) X HM.out HSR.out HF.out HO.out ?_)
  rw [HL.out]
  have hR6 := HR5.out.drew.rowOther (Ne.symm hbR) (put cur o X).toArray
  have hb6 := hb5.drew.row (put cur o X)
  have hQ6 := hQ5.drew.rowOther (Ne.symm hbQ) (put cur o X).toArray
  have hk6 := Keep.setRow hk5.drew (g := b) (fun _ => .inr (.inr (.inr rfl))) (put cur o X).toArray
  have hB6 := hB5.keep (Keep.setRow (Keep.drew (Keep.refl (fun k => k = b) w4)) (g := b) (fun _ => rfl) (put cur o X).toArray) (Ne.symm hbB) (Ne.symm hbG)
  clear HR5 hb5 hQ5 hk5 hB5 c0 c2 c3 d0 d2 d3 HSR
  generalize w4.drew.setRow b (put cur o X).toArray = w5 at *
  rw [show (n : Int) = (s : Int) + 1 by have := HS.out; omega]
  have c2 : w5.cell? ⟨R, 2, none⟩ = some (.int .i64 0) := hR6.cell 2
  have f2 := hR6.free 2
  have j2 : (s : Int) + 1 ≤ 4096 := by have := HN.out; have := HS.out; omega
  have HR6 := Hid.mk' hR6
  clear hR6
  go_wp2
  have hR7 := HR6.out.set 2 (.int .i64 ((s : Int) + 1))
  have hk7 := Keep.setCell hk6 (p := ⟨R, 2, none⟩) (fun _ => .inl rfl) (.int .i64 ((s : Int) + 1))
  have hkr := Keep.setCell (Keep.refl (fun k => k = R) w5) (p := ⟨R, 2, none⟩) (fun _ => rfl) (.int .i64 ((s : Int) + 1))
  have hB7 := hB6.keep hkr (Ne.symm hRB) (Ne.symm hRG)
  have hQ7 := hkr.row hQ6 (Ne.symm hRQ)
  have hb7 := hkr.row hb6 hbR
  clear hkr HR6 hk6 hB6 hQ6 hb6 c2 f2
  generalize w5.setCell ⟨R, 2, none⟩ (.int .i64 ((s : Int) + 1)) = w6 at *
  have c0 : w6.cell? ⟨R, 0, none⟩ = some (.slice (some ⟨Q, 0, none⟩) 4096 4096) := hR7.cell 0
  have c2 : w6.cell? ⟨R, 2, none⟩ = some (.int .i64 ((s : Int) + 1)) := hR7.cell 2
  have c5 : w6.cell? ⟨R, 5, none⟩ = some (.int .i64 lb) := hR7.cell 5
  have f5 := hR7.free 5
  have cz : w6.cell? ⟨Q, s, none⟩ = some (.int .u8 (z : Int)) := (hQ7.cell _).trans HZ.out
  have k1 : (0 : Int) ≤ (s : Int) := by omega
  have k2 : (s : Int) < 4096 := by omega
  have hws : IntKind.i64.wrap (s : Int) = (s : Int) := by simp [IntKind.wrap, IntKind.signed, IntKind.bits]; omega
  have d0 : w6.drew.cell? ⟨R, 0, none⟩ = some (.slice (some ⟨Q, 0, none⟩) 4096 4096) := c0
  have d2 : w6.drew.cell? ⟨R, 2, none⟩ = some (.int .i64 ((s : Int) + 1)) := c2
  have dz : w6.drew.cell? ⟨Q, s, none⟩ = some (.int .u8 (z : Int)) := cz
  have HR7 := Hid.mk' hR7
  clear hR7
  go_region_held3 (fun w' => w'.cell? ⟨R, 0, none⟩ = some (.slice (some ⟨Q, 0, none⟩) 4096 4096) ∧ w'.cell? ⟨R, 2, none⟩ = some (.int .i64 ((s : Int) + 1)) ∧ w'.cell? ⟨Q, s, none⟩ = some (.int .u8 (z : Int)))
    (first | exact ⟨d0, d2, dz⟩ | exact ⟨(World.cell?_setCell_other w6 ⟨R, 5, none⟩ ⟨R, 0, none⟩ (.int .i64 (IntKind.i64.wrap (z : Int))) (by simp)).trans c0, (World.cell?_setCell_other w6 ⟨R, 5, none⟩ ⟨R, 2, none⟩ (.int .i64 (IntKind.i64.wrap (z : Int))) (by simp)).trans c2, (World.cell?_setCell_other w6 ⟨R, 5, none⟩ ⟨Q, s, none⟩ (.int .i64 (IntKind.i64.wrap (z : Int))) (by first | (simp; done) | (simp; omega))).trans cz⟩)
    (fail)
  have hR8 := (HR7.out.set 5 (.int .i64 (IntKind.i64.wrap (z : Int)))).drew
  have hk8 := (Keep.setCell hk7 (p := ⟨R, 5, none⟩) (fun _ => .inl rfl) (.int .i64 (IntKind.i64.wrap (z : Int)))).drew
  have hkr := (Keep.setCell (Keep.refl (fun k => k = R) w6) (p := ⟨R, 5, none⟩) (fun _ => rfl) (.int .i64 (IntKind.i64.wrap (z : Int)))).drew
  have hB8 := hB7.keep hkr (Ne.symm hRB) (Ne.symm hRG)
  have hQ8 := hkr.row hQ7 (Ne.symm hRQ)
  have hb8 := hkr.row hb7 hbR
  clear hkr HR7 hk7 hB7 hQ7 hb7 c0 c2 c5 f5 cz d0 d2 dz hws
  generalize (w6.setCell ⟨R, 5, none⟩ (.int .i64 (IntKind.i64.wrap (z : Int)))).drew = w7 at *
  generalize IntKind.i64.wrap (z : Int) = zz at *
  have c6 : w7.cell? ⟨R, 6, none⟩ = some (.int .i64 lr) := hR8.cell 6
  have f6 := hR8.free 6
  have HR8 := Hid.mk' hR8
  clear hR8
  go_wp2
  go_ret2
  have hRf := HR8.out.set 6 (.int .i64 (-1))
  have hkf := Keep.setCell hk8 (p := ⟨R, 6, none⟩) (fun _ => .inl rfl) (.int .i64 (-1))
  have hkr := Keep.setCell (Keep.refl (fun k => k = R) w7) (p := ⟨R, 6, none⟩) (fun _ => rfl) (.int .i64 (-1))
  have hBf := hB8.keep hkr (Ne.symm hRB) (Ne.symm hRG)
  have hQf := hkr.row hQ8 (Ne.symm hRQ)
  have hbf := hkr.row hb8 hbR
  rw [HX.out, show (n : Int) = (s : Int) + 1 by have := HS.out; omega]
  exact ⟨rfl, ⟨_, _, hRf⟩, hQf, hBf, hbf, hkf⟩
end Go.Proofs.Qxb6616818aFmt
