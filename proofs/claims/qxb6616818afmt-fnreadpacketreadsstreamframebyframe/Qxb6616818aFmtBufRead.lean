/-
  (*bytes.Buffer).Read: the walk.
-/
import Derived.Test.Qxb6616818aFmtBuf
namespace Go.Proofs.Qxb6616818aFmt
open Go.RowKit

theorem Tryf.size5 : (Tryf.prog.info? 5).map (·.size) = some 1 := by kernel_rfl

set_option maxHeartbeats 1000000 in
set_option maxRecDepth 100000 in
/-- nothing is left: 0 and io.EOF -/
theorem bufRead_end (B G b o m cap : Nat) (tE : TypeId) (xE : Value) (hm : 0 < m) (hm2 : m ≤ 1000000000) (w : World) (hB1 : B ≠ 1) (hE : w.cell? ⟨1, 0, none⟩ = some (.iface tE xE)) (hbuf : Buf w B G []) :
    Calls Tryf.prog 73 #[.pointer (some ⟨B, 0, none⟩), .slice (some ⟨b, o, none⟩) m cap] w fun e w' => e = .returned (.tuple #[.int .i64 0, .iface tE xE]) ∧ Buf w' B G [] ∧ Keep (fun k => k = B) w w' := by
  obtain ⟨a, l, c, off, lr, hr, h1, h2, h3, h4⟩ := hbuf
  have hlo : l ≤ off := by
    rcases h4 with ⟨_, rfl, _⟩ | ⟨cs, _, _, _, hc, hd⟩
    · omega
    · have := congrArg List.length hd
      simp only [bv, List.map_nil, List.length_nil, List.length_drop, List.length_take] at this
      omega
  have c2 : w.cell? ⟨B, 2, none⟩ = some (.int .i8 lr) := hr.cell 2
  have f2 := hr.free 2
  have hr1 := hr.set 2 (.int .i8 0)
  have hE1 : (w.setCell ⟨B, 2, none⟩ (.int .i8 0)).cell? ⟨1, 0, none⟩ = some (.iface tE xE) := by rw [World.cell?_setCell_other _ _ _ _ (by simp)]; exact hE
  have hk1 : Keep (fun k => k = B) w (w.setCell ⟨B, 2, none⟩ (.int .i8 0)) := Keep.setCell (Keep.refl (fun k => k = B) w) (fun _ => rfl) _
  have hm0 : ((m : Int) == 0) = false := by rw [beq_eq_false_iff_ne]; omega
  have H4 : Hid ((a = none ∧ l = 0 ∧ c = 0 ∧ ([] : List Nat) = []) ∨ ∃ cs, a = some ⟨G, 0, none⟩ ∧ B ≠ G ∧ Row w G 5 cs ∧ cs.length = c ∧ (cs.take l).drop off = bv []) := h4
  clear h4 hr hE
  go_enter Tryf.func73, Tryf.ntmps73
  go_wp2_with fail
  generalize w.setCell ⟨B, 2, none⟩ (.int .i8 0) = w1 at *
  refine (empty_any B a l c off 0 w1 hr1).mono ?_
  rintro e w' ⟨rfl, q, rfl⟩
  have hd : decide (l ≤ off) = true := by simp; exact hlo
  rw [hd]
  rcases H4.out with ⟨rfl, rfl, rfl, _⟩ | ⟨cs, rfl, hBG, hG, hc, hdr⟩
  · go_wp2_with fail
    refine (reset_nil B off 0 _ (hr1.drewN q)).mono ?_
    rintro e w2 ⟨rfl, hr2, hk2⟩
    have hE2 : w2.cell? ⟨1, 0, none⟩ = some (.iface tE xE) := hk2.cell (w := w1.drewN q) hE1 (fun h => hB1 h.symm)
    go_wp2
    go_quiet (fail)
    go_wp2
    go_ret2
    refine ⟨rfl, ⟨none, 0, 0, 0, 0, hr2, by omega, by omega, by omega, .inl ⟨rfl, rfl, rfl, rfl⟩⟩, ?_⟩
    exact (((hk1.drewN q).trans hk2).drewN _)
  · go_wp2_with fail
    refine (reset_some B G l c off 0 _ (hr1.drewN q)).mono ?_
    rintro e w2 ⟨rfl, hr2, hk2⟩
    have hE2 : w2.cell? ⟨1, 0, none⟩ = some (.iface tE xE) := hk2.cell (w := w1.drewN q) hE1 (fun h => hB1 h.symm)
    go_wp2
    go_quiet (fail)
    go_wp2
    go_ret2
    have hk := ((hk1.drewN q).trans hk2).drewN nq
    refine ⟨rfl, ⟨_, 0, c, 0, 0, hr2, by omega, by omega, by omega, .inr ⟨cs, rfl, hBG, hk.row hG (fun h => hBG h.symm), hc, by simp [bv]⟩⟩, hk⟩

set_option maxHeartbeats 1000000 in
set_option maxRecDepth 100000 in
/-- something is left: as much of it as fits goes over -/
theorem bufRead_some {tb : TypeId} (B G b o m cap : Nat) (rest : List Nat) (cur : List Value) (hm : 0 < m) (hm2 : m ≤ 1000000000) (hrest : 0 < rest.length) (w : World) (hbB : b ≠ B) (hbG : b ≠ G) (hb : Row w b tb cur) (hfit : o + m ≤ cur.length) (hbuf : Buf w B G rest) :
    Calls Tryf.prog 73 #[.pointer (some ⟨B, 0, none⟩), .slice (some ⟨b, o, none⟩) m cap] w fun e w' => e = .returned (.tuple #[.int .i64 ((min m rest.length : Nat) : Int), .nilIface]) ∧
      Buf w' B G (rest.drop (min m rest.length)) ∧ Row w' b tb (put cur o (bv (rest.take (min m rest.length)))) ∧ Keep (fun k => k = B ∨ k = b) w w' := by
  obtain ⟨a, l, c, off, lr, hr, h1, h2, h3, h4⟩ := hbuf
  rcases h4 with ⟨_, _, _, rfl⟩ | ⟨cs, rfl, hBG, hG, hc, hdr⟩
  · simp at hrest
  have hll : l = off + rest.length := by
    have := congrArg List.length hdr
    rw [bv_length, List.length_drop, List.length_take] at this
    omega
  obtain ⟨n, hn⟩ : ∃ n, n = min m rest.length := ⟨_, rfl⟩
  have hn0 : 0 < n := by omega
  rw [← hn]
  have c2 : w.cell? ⟨B, 2, none⟩ = some (.int .i8 lr) := hr.cell 2
  have f2 := hr.free 2
  have hr1 := hr.set 2 (.int .i8 0)
  have hb1 := hb.setOther (a := ⟨B, 2, none⟩) hbB (.int .i8 0)
  have hG1 := hG.setOther (a := ⟨B, 2, none⟩) (Ne.symm hBG) (.int .i8 0)
  have hk1 : Keep (fun k => k = B ∨ k = b) w (w.setCell ⟨B, 2, none⟩ (.int .i8 0)) := Keep.setCell (Keep.refl (fun k => k = B ∨ k = b) w) (fun _ => .inl rfl) _
  clear hr hb hG
  go_enter Tryf.func73, Tryf.ntmps73
  go_wp2_with fail
  generalize w.setCell ⟨B, 2, none⟩ (.int .i8 0) = w1 at *
  refine (empty_any B _ l c off 0 w1 hr1).mono ?_
  rintro e w' ⟨rfl, q, rfl⟩
  have hd : decide (l ≤ off) = false := by simp; omega
  rw [hd]
  have hr2 := hr1.drewN q
  have hb2 := hb1.drewN q
  have hG2 := hG1.drewN q
  have hk2 := hk1.drewN q
  generalize w1.drewN q = w2 at *
  clear hr1 hb1 hG1 hk1
  have c0 : w2.cell? ⟨B, 0, none⟩ = some (.slice (some ⟨G, 0, none⟩) l c) := hr2.cell 0
  have c1 : w2.cell? ⟨B, 1, none⟩ = some (.int .i64 (off : Int)) := hr2.cell 1
  have i1 : (off : Int) ≤ (l : Int) := by omega
  have i2 : c ≠ off := by omega
  have hsrc := row_src hG2 off (bv (rest.take n)) (fun j v hj => by
    rw [bv_take, List.getElem?_take] at hj
    split at hj
    · rw [← hdr, List.getElem?_drop, List.getElem?_take] at hj
      split at hj
      · exact hj
      · cases hj
    · cases hj)
  have hbl : (bv (rest.take n)).length = n := by rw [bv_length, List.length_take]; omega
  have hmin : (bv (rest.take n)).length = Nat.min (l - off) m := by rw [hbl, hn, hll]; show _ = min _ _; omega
  have hb1 := bv_one (rest.take n)
  have hS : Hid (∀ j v, (bv (rest.take n))[j]? = some v → w2.cell? ((⟨G, off, none⟩ : Addr).add j) = some v) := hsrc
  have hM : Hid ((bv (rest.take n)).length = Nat.min (l - off) m) := hmin
  have hL : Hid ((bv (rest.take n)).length = n) := hbl
  have hD : Hid ((cs.take l).drop off = bv rest) := hdr
  have hN : Hid (n = min m rest.length) := hn
  have hLL : Hid (l = off + rest.length) := hll
  have hFit : Hid (o + (bv (rest.take n)).length ≤ cur.length) := by show _ ≤ _; omega
  have hOne : Hid (∀ v ∈ bv (rest.take n), v.oneCell' = true) := hb1
  clear hsrc hmin hbl hdr hn hll hb1
  generalize hX : bv (rest.take n) = X at *
  have HX : Hid (bv (rest.take n) = X) := hX
  clear hX
  go_wp2
  have d0 : w2.drew.cell? ⟨B, 0, none⟩ = some (.slice (some ⟨G, 0, none⟩) l c) := c0
  have d1 : w2.drew.cell? ⟨B, 1, none⟩ = some (.int .i64 (off : Int)) := c1
  go_region_held3 (fun w' => w'.cell? ⟨B, 0, none⟩ = some (.slice (some ⟨G, 0, none⟩) l c) ∧ w'.cell? ⟨B, 1, none⟩ = some (.int .i64 (off : Int)))
    ((go_split_ands; refine ⟨?_, ?_⟩ <;> first | (with_reducible assumption) | (rw [cell_setRow_other _ _ _ _ (Ne.symm hbB)]; assumption)))
    (refine step_copy_put (by rfl) (.tmp 17) (.tmp 26) 24 24 (by rfl) 5 Tryf.underlying24 Tryf.size5 b o m cap ⟨G, off, none⟩ (l - off) (c - off) (by rfl) (by rfl) cur tb (hb2.drew) X hM.out hS.out hFit.out hOne.out ?_)
  rw [hL.out]
  have hr3 := hr2.drew.rowOther (Ne.symm hbB) (put cur o X).toArray
  have hb3 := hb2.drew.row (put cur o X)
  have hG3 := hG2.drew.rowOther (Ne.symm hbG) (put cur o X).toArray
  have hk3 := Keep.setRow hk2.drew (g := b) (fun _ => .inr rfl) (put cur o X).toArray
  generalize w2.drew.setRow b (put cur o X).toArray = w3 at *
  clear hr2 hb2 hG2 hk2 hS c0 c1 d0 d1
  have c1 : w3.cell? ⟨B, 1, none⟩ = some (.int .i64 (off : Int)) := hr3.cell 1
  have c2 : w3.cell? ⟨B, 2, none⟩ = some (.int .i8 0) := hr3.cell 2
  have f1 := hr3.free 1
  have f2 := hr3.free 2
  have j1 : (0 : Int) < (n : Int) := by omega
  have j2 : (off : Int) + (n : Int) ≤ 2000000 := by have := hN.out; have := hLL.out; omega
  have HK3 : Hid (Keep (fun k => k = B ∨ k = b) w w3) := hk3
  have HR3 : Hid (Row w3 B 77 ((List.set [.slice (some ⟨G, 0, none⟩) l c, .int .i64 (off : Int), .int .i8 lr] 2 (.int .i8 0)))) := hr3
  clear hk3 hr3
  go_wp2
  go_ret2
  have hrf := (HR3.out.set 1 (.int .i64 ((off : Int) + (n : Int)))).set 2 (.int .i8 (-1))
  have hkf := Keep.setCell (Keep.setCell HK3.out (p := ⟨B, 1, none⟩) (fun _ => .inl rfl) (.int .i64 ((off : Int) + (n : Int)))) (p := ⟨B, 2, none⟩) (fun _ => .inl rfl) (.int .i8 (-1))
  refine ⟨rfl, ⟨_, l, c, off + n, -1, ?_, by have := hN.out; have := hLL.out; omega, h2, h3, .inr ⟨cs, rfl, hBG, (hG3.setOther (a := ⟨B, 1, none⟩) (Ne.symm hBG) _).setOther (a := ⟨B, 2, none⟩) (Ne.symm hBG) _, hc, ?_⟩⟩, ?_, hkf⟩
  · rw [show ((off + n : Nat) : Int) = (off : Int) + (n : Int) by omega]; exact hrf
  · rw [bv_drop, ← hD.out, List.drop_drop]
  · rw [HX.out]
    exact (hb3.setOther (a := ⟨B, 1, none⟩) hbB _).setOther (a := ⟨B, 2, none⟩) hbB _
end Go.Proofs.Qxb6616818aFmt
