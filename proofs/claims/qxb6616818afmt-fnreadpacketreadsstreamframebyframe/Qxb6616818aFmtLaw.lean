/-
  The law: the walk.
-/
import Derived.Test.Qxb6616818aFmtConn
namespace Go.Proofs.Qxb6616818aFmt
open Go.RowKit Go.Extern.Stop Go.Stop Go.Extern

/-- how the cloning of the stream ends: a slice that a new buffer can stand on -/
def CloneEnd (xs : List Nat) (w : World) (e : Ending) (w' : World) : Prop :=
  ∃ a l c G, e = .returned (.slice a l c) ∧ Keep (fun _ => False) w w' ∧ G < w'.heap.size ∧
    ∀ w2 B, Keep (fun _ => False) w' w2 → w'.heap.size ≤ B → Row w2 B 77 [.slice a l c, .int .i64 0, .int .i8 0] → Buf w2 B G xs

theorem clone_any (a : Option Addr) (n cap : Nat) (xs : List Nat) (w : World) (hn : n ≤ 1048576) (h0 : 0 < w.heap.size) (hx : Reads w a n xs) (hnil : a = none → n = 0 ∧ cap = 0) : Calls Tryf.prog 15 #[.slice a n cap] w (CloneEnd xs w) := by
  cases a with
  | none =>
    obtain ⟨rfl, rfl⟩ := hnil rfl
    have hxs : xs = [] := List.length_eq_zero_iff.1 hx.1
    subst hxs
    refine (clone_nil w).mono ?_
    rintro e w' ⟨rfl, rfl⟩
    exact ⟨none, 0, 0, 0, rfl, Keep.refl _ _, h0, fun w2 B _ _ hr => buf_nil hr⟩
  | some x =>
    refine (clone_some x n cap xs w hn hx).mono ?_
    rintro e w' ⟨rfl, hr, hk⟩
    exact ⟨_, n, n, w.heap.size, rfl, hk, hr.lt, fun w2 B k2 hB hr2 => buf_clone hr2 (k2.row hr (fun x => x)) (by have := hr.lt; omega) hx.1 hn⟩

theorem St.drewN {w : World} {base C R Q B G q : Nat} {mp : Int} {S : List Nat} (h : St w base C R Q B G q mp S) (n : Nat) : St (w.drewN n) base C R Q B G q mp S := by
  obtain ⟨g0, cc, v, hl, hc, hv, hr⟩ := h
  have hk : Keep (fun _ => False) w (w.drewN n) := (Keep.refl _ w).drewN n
  exact ⟨g0, cc, v, hl, ⟨hc.row.drewN n, hc.len, hc.c0, hc.c2, hc.c3, hc.c4⟩, hv.keep hk (fun x => x), hr.keep hk (fun x => x) (fun x => x) (fun x => x) (fun x => x)⟩

set_option maxHeartbeats 1000000 in
set_option maxRecDepth 100000 in
theorem law_long (a : Option Addr) (n cap : Nat) (mp : Int) (w : World) (hn : 1048576 < n) :
    Calls Tryf.prog 4 #[.slice a n cap, .int .i64 mp] w fun e w' => e = .returned (.bool true) ∧ Keep (fun _ => False) w w' := by
  go_enter Tryf.func4, Tryf.ntmps4
  go_wp2_with fail
  refine (bytes_long a n cap mp w hn).mono ?_
  rintro e w' ⟨rfl, rfl⟩
  go_wp2
  go_ret
  exact ⟨rfl, Keep.refl _ _⟩

set_option maxHeartbeats 4000000 in
set_option maxRecDepth 100000 in
theorem law_short (F : Interp) (a : Option Addr) (n cap : Nat) (mp : Int) (xs : List Nat) (aE aU aS aP : Addr) (w : World) (hF : F.answers w.tape) (hs : Sents w w.heap.size aE aU aS aP) (hx : Reads w a n xs) (hnc : n ≤ cap) (hnil : a = none → n = 0 ∧ cap = 0) (hn : n ≤ 1048576) :
    Calls Tryf.prog 4 #[.slice a n cap, .int .i64 mp] w fun e w' => e = .returned (.bool true) ∧ Keep (fun _ => False) w w' := by
  have HF := Hid.mk' hF
  have HS := Hid.mk' hs
  have HX := Hid.mk' hx
  have HC := Hid.mk' (clone_any a n cap xs w hn (by have := hs.lo; omega) hx hnil)
  have HNIL := Hid.mk' hnil
  clear hF hs hx hnil
  have i0 : ¬ (1048576 : Int) < (n : Int) := by omega
  go_enter Tryf.func4, Tryf.ntmps4
  go_wp2_with fail
  refine (bytes_any a n cap mp w hn).mono ?_
  rintro e w' ⟨rfl, rfl⟩
  go_wp2_with fail
  refine HC.out.mono ?_
  rintro e w1 ⟨ca, cl, cc, G, rfl, hk1, hG, hbuf⟩
  have HK1 := Hid.mk' hk1
  have HBUF := Hid.mk' hbuf
  clear hk1 hbuf
  go_wp2_with fail
  refine (zzbuf_any ca cl cc w1).mono ?_
  rintro e w2 ⟨rfl, hr2, hk2⟩
  have HB2 := Hid.mk' (HBUF.out w2 w1.heap.size hk2 (Nat.le_refl _) hr2)
  have HK2 := Hid.mk' (HK1.out.trans hk2)
  have hB := hr2.lt
  have hl1 := HK1.out.size
  obtain ⟨B, hBe⟩ : ∃ B, w1.heap.size = B := ⟨_, rfl⟩
  rw [hBe] at hB hG hl1 HB2
  simp only [hBe]
  clear hr2 hk2 HBUF HK1 hBe
  go_wp2_with fail
  refine (conn_any w.heap.size B G mp xs w2 HB2.out hl1 (by omega)).mono ?_
  rintro e w3 ⟨C, R, Q, rfl, hst, hk3⟩
  have HST := Hid.mk' (hst (by omega))
  have HK3 := Hid.mk' (HK2.out.trans hk3)
  clear hst hk3 HK2 HB2
  go_wp2
  go_loopw [6, 7] (fun t u wr => ∃ pos k : Nat, t = .int .i64 (pos : Int) ∧ u = .int .i64 (k : Int) ∧ 4 * k ≤ pos ∧ pos ≤ n ∧ St wr w.heap.size C R Q B G (k % 256) mp (xs.drop pos) ∧ Keep (fun i => w.heap.size ≤ i) w wr) (fun t _ _ => n - (intOf t).toNat)
  case atStart => exact ⟨0, 0, rfl, rfl, by omega, by omega, HST.out, HK3.out.mono (fun _ _ x => x.elim)⟩
  case round =>
    obtain ⟨pos, k, rfl, rfl, hkp, hpn, hst, hk⟩ := hrel
    have HS4 := Hid.mk' (HS.out.keep hk (fun _ x => x))
    have HX4 := Hid.mk' (HX.out.keep hk (fun _ x => x))
    have HF4 : Hid (F.answers wr.tape) := by show F.answers wr.tape; rw [hk.tape]; exact HF.out
    have HST4 := Hid.mk' hst
    have HK4 := Hid.mk' hk
    clear hst hk HST HK3
    have i1 : (k : Int) ≤ (n : Int) / 4 := by omega
    have hxl : xs.length = n := HX.out.1
    have hdl : (xs.drop pos).length = n - pos := by rw [List.length_drop, hxl]
    have hkq : (k : Int) % 256 = ((k % 256 : Nat) : Int) := by omega
    have HKQ := Hid.mk' hkq
    have HXL := Hid.mk' hxl
    have HDL := Hid.mk' hdl
    clear hkq hxl hdl
    go_wp2_with fail
    refine (pack_any F w.heap.size C R Q B G (k % 256) mp (xs.drop pos) aE aU aS aP wr HF4.out HS4.out HST4.out (fun x hx => HX.out.2.1 x (List.mem_of_mem_drop hx)) (by rw [HDL.out]; omega)).mono ?_
    rintro e w5 ⟨hk5, hend⟩
    have HK5 := Hid.mk' (HK4.out.trans hk5)
    have HX5 := Hid.mk' (HX.out.keep HK5.out (fun _ x => x))
    clear hk5 HK4 HST4 HX4 HS4 HF4
    have hslnil := fun (w : World) (a : Option Addr) (n c : Nat) => Lib.run_eql_slice_nil w 24 5 a n c 0 0 Tryf.underlying24
    rcases hend with ⟨hf, t, y, rfl⟩ | ⟨m, pa, pc, hf, rfl, hrd, hst⟩
    · have HFR := Hid.mk' hf
      clear hf
      go_wp2_with fail
      rw [HKQ.out]
      refine (frameAt_any a n cap pos (k % 256) mp xs w5 hpn hn (Nat.mod_lt _ (by omega)) HX5.out).mono ?_
      rintro e w6 ⟨rfl, kk, rfl⟩
      rw [HFR.out]
      simp only [frameVal]
      go_wp2
      go_ret
      exact ⟨rfl, (HK5.out.drewN kk).mono (fun i hi x => by omega)⟩
    · have hfl := (frame_le hf).1
      rw [HDL.out] at hfl
      have HFR := Hid.mk' hf
      have HRD := Hid.mk' hrd
      have HST := Hid.mk' hst
      clear hf hrd hst
      go_wp2_with fail
      rw [HKQ.out]
      refine (frameAt_any a n cap pos (k % 256) mp xs w5 hpn hn (Nat.mod_lt _ (by omega)) HX5.out).mono ?_
      rintro e w6 ⟨rfl, kk, rfl⟩
      rw [HFR.out]
      simp only [frameVal]
      obtain ⟨_, _, hh⟩ := HX5.out
      rcases hh with hh | ⟨b, o, rfl, hh⟩
      · omega
      clear hh
      obtain ⟨X, c, hsl, hX⟩ := slice_reads b o n cap pos m xs w5 HX5.out (by omega) hnc
      have hrdK : Reads w5 pa m ((xs.drop (pos + 4)).take m) := by rw [← List.drop_drop]; exact HRD.out
      have HEQ := Hid.mk' (equal_any pa X m pc c ((xs.drop (pos + 4)).take m) (w5.drewN kk) (by omega) hrdK hX)
      clear hX hrdK
      have i2 : (pos : Int) + 4 + (m : Int) ≤ 1048576 := by omega
      go_wp2_with fail
      refine HEQ.out.mono ?_
      rintro e w7 ⟨rfl, k2, rfl⟩
      go_wp2
      go_roundw
      case rel =>
        refine ⟨pos + (4 + m), k + 1, by go_num, by go_num, by omega, by omega, ?_, HK5.out.drewN _⟩
        have h := HST.out.drewN (kk + k2)
        rw [List.drop_drop, show (k % 256 + 1) % 256 = (k + 1) % 256 by omega] at h
        exact h
      case measure => simp [intOf]; omega

theorem law_any (F : Interp) (a : Option Addr) (n cap : Nat) (mp : Int) (xs : List Nat) (aE aU aS aP : Addr) (w : World) (hF : F.answers w.tape) (hs : Sents w w.heap.size aE aU aS aP) (hx : Reads w a n xs) (hnc : n ≤ cap) (hnil : a = none → n = 0 ∧ cap = 0) :
    Calls Tryf.prog 4 #[.slice a n cap, .int .i64 mp] w fun e w' => e = .returned (.bool true) ∧ Keep (fun _ => False) w w' := by
  by_cases hn : n ≤ 1048576
  · exact law_short F a n cap mp xs aE aU aS aP w hF hs hx hnc hnil hn
  · exact law_long a n cap mp w (by omega)
end Go.Proofs.Qxb6616818aFmt
