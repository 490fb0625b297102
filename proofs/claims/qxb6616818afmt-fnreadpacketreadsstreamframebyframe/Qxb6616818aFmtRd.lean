/-
  (*bufio.Reader).Read: the walks, way by way.
-/
import Derived.Test.Qxb6616818aFmtBufRead
namespace Go.Proofs.Qxb6616818aFmt
open Go.RowKit

theorem Hid.mk' {p : Prop} (h : p) : Hid p := h

set_option maxHeartbeats 2000000 in
set_option maxRecDepth 100000 in
/-- the room holds something: as much of it as fits goes over -/
theorem rd_buf {tb : TypeId} (R Q B b o m cap r v : Nat) (lb lr : Int) (rm cur : List Value) (buf : List Nat) (hm : 0 < m) (hm2 : m ≤ 1000000000) (w : World) (hRQ : R ≠ Q) (hbR : b ≠ R) (hbQ : b ≠ Q)
    (hR : Row w R 113 [.slice (some ⟨Q, 0, none⟩) 4096 4096, .iface 25 (.pointer (some ⟨B, 0, none⟩)), .int .i64 (r : Int), .int .i64 (v : Int), .nilIface, .int .i64 lb, .int .i64 lr])
    (hQ : Row w Q 5 rm) (hrl : rm.length = 4096) (hrv : r < v) (hv : v ≤ 4096) (hbuf : (rm.take v).drop r = bv buf) (hb : Row w b tb cur) (hfit : o + m ≤ cur.length) :
    Calls Tryf.prog 84 #[.pointer (some ⟨R, 0, none⟩), .slice (some ⟨b, o, none⟩) m cap] w fun e w' => e = .returned (.tuple #[.int .i64 ((min m buf.length : Nat) : Int), .nilIface]) ∧
      (∃ lb lr, Row w' R 113 [.slice (some ⟨Q, 0, none⟩) 4096 4096, .iface 25 (.pointer (some ⟨B, 0, none⟩)), .int .i64 ((r + min m buf.length : Nat) : Int), .int .i64 (v : Int), .nilIface, .int .i64 lb, .int .i64 lr]) ∧
      Row w' b tb (put cur o (bv (buf.take (min m buf.length)))) ∧ Keep (fun k => k = R ∨ k = b) w w' := by
  have hbl : buf.length = v - r := by
    have := congrArg List.length hbuf
    rw [bv_length, List.length_drop, List.length_take] at this
    omega
  obtain ⟨n, hn⟩ : ∃ n, n = min m buf.length := ⟨_, rfl⟩
  have hn0 : 0 < n := by omega
  rw [← hn]
  have hm0 : ((m : Int) == 0) = false := by rw [beq_eq_false_iff_ne]; omega
  have hrv0 : ((r : Int) == (v : Int)) = false := by rw [beq_eq_false_iff_ne]; omega
  have hsrc := row_src hQ r (bv (buf.take n)) (fun j x hj => by
    rw [bv_take, List.getElem?_take] at hj
    split at hj
    · rw [← hbuf, List.getElem?_drop, List.getElem?_take] at hj
      split at hj
      · exact hj
      · cases hj
    · cases hj)
  obtain ⟨z, hz⟩ : ∃ z : Nat, rm[r + n - 1]? = some (.int .u8 (z : Int)) := by
    have h1 : (bv buf)[n - 1]? = some (.int .u8 (buf[n - 1] : Int)) := bv_at (by omega)
    rw [← hbuf, List.getElem?_drop, List.getElem?_take, if_pos (by omega), show r + (n - 1) = r + n - 1 by omega] at h1
    exact ⟨_, h1⟩
  have hxl : (bv (buf.take n)).length = n := by rw [bv_length, List.length_take]; omega
  have hmin : (bv (buf.take n)).length = Nat.min (v - r) m := by rw [hxl, hn, hbl]; show _ = min _ _; omega
  have c0 : w.cell? ⟨R, 0, none⟩ = some (.slice (some ⟨Q, 0, none⟩) 4096 4096) := hR.cell 0
  have c2 : w.cell? ⟨R, 2, none⟩ = some (.int .i64 (r : Int)) := hR.cell 2
  have c3 : w.cell? ⟨R, 3, none⟩ = some (.int .i64 (v : Int)) := hR.cell 3
  have HS : Hid (∀ j x, (bv (buf.take n))[j]? = some x → w.cell? ((⟨Q, r, none⟩ : Addr).add j) = some x) := hsrc
  have HM : Hid ((bv (buf.take n)).length = Nat.min (v - r) m) := hmin
  have HL : Hid ((bv (buf.take n)).length = n) := hxl
  have HN : Hid (n = min m buf.length) := hn
  have HLL : Hid (buf.length = v - r) := hbl
  have HF : Hid (o + (bv (buf.take n)).length ≤ cur.length) := by show _ ≤ _; omega
  have HO : Hid (∀ x ∈ bv (buf.take n), x.oneCell' = true) := bv_one _
  have HZ : Hid (rm[r + n - 1]? = some (.int .u8 (z : Int))) := hz
  clear hsrc hmin hxl hn hbl hbuf hz
  generalize hX : bv (buf.take n) = X at *
  have HX : Hid (bv (buf.take n) = X) := hX
  clear hX
  have i1 : (r : Int) ≤ (v : Int) := by omega
  have i2 : (v : Int) ≤ 4096 := by omega
  have i3 : (4096 : Nat) ≠ r := by omega
  go_enter Tryf.func84, Tryf.ntmps84
  go_wp2
  go_quiet (fail)
  go_wp2
  have hR1 := hR.drewN nq
  have hQ1 := hQ.drewN nq
  have hb1 := hb.drewN nq
  have hk1 : Keep (fun k => k = R ∨ k = b) w (w.drewN nq) := (Keep.refl _ w).drewN nq
  have HS1 : Hid (∀ j x, X[j]? = some x → (w.drewN nq).cell? ((⟨Q, r, none⟩ : Addr).add j) = some x) := HS.out
  have c01 : (w.drewN nq).cell? ⟨R, 0, none⟩ = some (.slice (some ⟨Q, 0, none⟩) 4096 4096) := c0
  have c21 : (w.drewN nq).cell? ⟨R, 2, none⟩ = some (.int .i64 (r : Int)) := c2
  have c31 : (w.drewN nq).cell? ⟨R, 3, none⟩ = some (.int .i64 (v : Int)) := c3
  clear HS c0 c2 c3 hR hQ hb
  have HS := HS1
  have c0 := c01
  have c2 := c21
  have c3 := c31
  clear HS1 c01 c21 c31
  generalize w.drewN nq = w1 at *
  have d0 : w1.drew.cell? ⟨R, 0, none⟩ = some (.slice (some ⟨Q, 0, none⟩) 4096 4096) := c0
  have d2 : w1.drew.cell? ⟨R, 2, none⟩ = some (.int .i64 (r : Int)) := c2
  have d3 : w1.drew.cell? ⟨R, 3, none⟩ = some (.int .i64 (v : Int)) := c3
  go_region_held3 (fun w' => w'.cell? ⟨R, 0, none⟩ = some (.slice (some ⟨Q, 0, none⟩) 4096 4096) ∧ w'.cell? ⟨R, 2, none⟩ = some (.int .i64 (r : Int)) ∧ w'.cell? ⟨R, 3, none⟩ = some (.int .i64 (v : Int)))
    ((go_split_ands; refine ⟨?_, ?_, ?_⟩ <;> first | (with_reducible assumption) | (rw [cell_setRow_other _ _ _ _ (Ne.symm hbR)]; assumption)))
    (refine step_copy_put (by rfl) (.tmp 109) (.tmp 122) 24 24 (by rfl) 5 Tryf.underlying24 Tryf.size5 b o m cap ⟨Q, r, none⟩ (v - r) (4096 - r) (by rfl) (by rfl) cur tb (hb1.drew) X HM.out HS.out HF.out HO.out ?_)
  rw [HL.out]
  have hR2 := hR1.drew.rowOther (Ne.symm hbR) (put cur o X).toArray
  have hb2 := hb1.drew.row (put cur o X)
  have hQ2 := hQ1.drew.rowOther (Ne.symm hbQ) (put cur o X).toArray
  have hk2 := Keep.setRow hk1.drew (g := b) (fun _ => .inr rfl) (put cur o X).toArray
  generalize w1.drew.setRow b (put cur o X).toArray = w2 at *
  clear hR1 hb1 hQ1 hk1 HS c0 c2 c3 d0 d2 d3
  have c2 : w2.cell? ⟨R, 2, none⟩ = some (.int .i64 (r : Int)) := hR2.cell 2
  have f2 := hR2.free 2
  have j2 : (r : Int) + (n : Int) ≤ 4096 := by have := HN.out; have := HLL.out; omega
  have HK2 : Hid (Keep (fun k => k = R ∨ k = b) w w2) := hk2
  have HR2 : Hid (Row w2 R 113 [.slice (some ⟨Q, 0, none⟩) 4096 4096, .iface 25 (.pointer (some ⟨B, 0, none⟩)), .int .i64 (r : Int), .int .i64 (v : Int), .nilIface, .int .i64 lb, .int .i64 lr]) := hR2
  clear hk2 hR2
  go_wp2
  obtain ⟨s, hs⟩ : ∃ s, r + n = s + 1 := ⟨r + n - 1, by omega⟩
  rw [show (r : Int) + (n : Int) = (s : Int) + 1 by omega]
  have HSS : Hid (r + n = s + 1) := hs
  have hz2 : rm[s]? = some (.int .u8 (z : Int)) := by have := HZ.out; rwa [show r + n - 1 = s by omega] at this
  have HZ2 : Hid (rm[s]? = some (.int .u8 (z : Int))) := hz2
  clear hs HZ hz2
  have hR3 := HR2.out.set 2 (.int .i64 ((s : Int) + 1))
  have hQ3 := hQ2.setOther (a := ⟨R, 2, none⟩) (Ne.symm hRQ) (.int .i64 ((s : Int) + 1))
  have hb3 := hb2.setOther (a := ⟨R, 2, none⟩) hbR (.int .i64 ((s : Int) + 1))
  have hk3 := Keep.setCell HK2.out (p := ⟨R, 2, none⟩) (fun _ => .inl rfl) (.int .i64 ((s : Int) + 1))
  generalize w2.setCell ⟨R, 2, none⟩ (.int .i64 ((s : Int) + 1)) = w3 at *
  clear hQ2 hb2 HK2 HR2 c2 f2
  have c0 : w3.cell? ⟨R, 0, none⟩ = some (.slice (some ⟨Q, 0, none⟩) 4096 4096) := hR3.cell 0
  have c2 : w3.cell? ⟨R, 2, none⟩ = some (.int .i64 ((s : Int) + 1)) := hR3.cell 2
  have c5 : w3.cell? ⟨R, 5, none⟩ = some (.int .i64 lb) := hR3.cell 5
  have f5 := hR3.free 5
  have c6 : w3.cell? ⟨R, 6, none⟩ = some (.int .i64 lr) := hR3.cell 6
  have f6 := hR3.free 6
  have cz : w3.cell? ⟨Q, s, none⟩ = some (.int .u8 (z : Int)) := (hQ3.cell _).trans HZ2.out
  have k1 : (0 : Int) ≤ (s : Int) := by omega
  have k2 : (s : Int) < 4096 := by have := HSS.out; omega
  have HK3 : Hid (Keep (fun k => k = R ∨ k = b) w w3) := hk3
  have HR3 : Hid (Row w3 R 113 (List.set [.slice (some ⟨Q, 0, none⟩) 4096 4096, .iface 25 (.pointer (some ⟨B, 0, none⟩)), .int .i64 (r : Int), .int .i64 (v : Int), .nilIface, .int .i64 lb, .int .i64 lr] 2 (.int .i64 ((s : Int) + 1)))) := hR3
  clear hk3 hR3
  have hws : IntKind.i64.wrap (s : Int) = (s : Int) := by simp [IntKind.wrap, IntKind.signed, IntKind.bits]; omega
  have d0 : w3.drew.cell? ⟨R, 0, none⟩ = some (.slice (some ⟨Q, 0, none⟩) 4096 4096) := c0
  have d2 : w3.drew.cell? ⟨R, 2, none⟩ = some (.int .i64 ((s : Int) + 1)) := c2
  have dz : w3.drew.cell? ⟨Q, s, none⟩ = some (.int .u8 (z : Int)) := cz
  go_region_held3 (fun w' => w'.cell? ⟨R, 0, none⟩ = some (.slice (some ⟨Q, 0, none⟩) 4096 4096) ∧ w'.cell? ⟨R, 2, none⟩ = some (.int .i64 ((s : Int) + 1)) ∧ w'.cell? ⟨Q, s, none⟩ = some (.int .u8 (z : Int)))
    (first | exact ⟨d0, d2, dz⟩ | exact ⟨(World.cell?_setCell_other w3 ⟨R, 5, none⟩ ⟨R, 0, none⟩ (.int .i64 (IntKind.i64.wrap (z : Int))) (by simp)).trans c0, (World.cell?_setCell_other w3 ⟨R, 5, none⟩ ⟨R, 2, none⟩ (.int .i64 (IntKind.i64.wrap (z : Int))) (by simp)).trans c2, (World.cell?_setCell_other w3 ⟨R, 5, none⟩ ⟨Q, s, none⟩ (.int .i64 (IntKind.i64.wrap (z : Int))) (by first | (simp; done) | (simp; omega))).trans cz⟩)
    (fail)
  have hR4 := (HR3.out.set 5 (.int .i64 (IntKind.i64.wrap (z : Int)))).drew
  have hb4 := (hb3.setOther (a := ⟨R, 5, none⟩) hbR (.int .i64 (IntKind.i64.wrap (z : Int)))).drew
  have hk4 := (Keep.setCell HK3.out (p := ⟨R, 5, none⟩) (fun _ => .inl rfl) (.int .i64 (IntKind.i64.wrap (z : Int)))).drew
  clear HR3 hb3 HK3 c0 c2 c5 f5 c6 f6 cz d0 d2 dz hws
  generalize (w3.setCell ⟨R, 5, none⟩ (.int .i64 (IntKind.i64.wrap (z : Int)))).drew = w4 at *
  generalize IntKind.i64.wrap (z : Int) = zz at *
  have c6 : w4.cell? ⟨R, 6, none⟩ = some (.int .i64 lr) := hR4.cell 6
  have f6 := hR4.free 6
  have HR4 := Hid.mk' hR4
  clear hR4
  go_wp2
  go_ret2
  have hRf := HR4.out.set 6 (.int .i64 (-1))
  have hbf := hb4.setOther (a := ⟨R, 6, none⟩) hbR (.int .i64 (-1))
  have hkf := Keep.setCell hk4 (p := ⟨R, 6, none⟩) (fun _ => .inl rfl) (.int .i64 (-1))
  have hsum : ((r + n : Nat) : Int) = (s : Int) + 1 := by have := HSS.out; omega
  rw [hsum]
  refine ⟨rfl, ⟨_, _, hRf⟩, hbf, hkf⟩
end Go.Proofs.Qxb6616818aFmt
