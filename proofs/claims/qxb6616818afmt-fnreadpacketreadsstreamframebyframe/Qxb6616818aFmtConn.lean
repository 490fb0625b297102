/-
  ZZnewConn over ZZnewBuffer over zzClone: a connection that has the whole stream before it.
-/
import Derived.Test.Qxb6616818aFmtMake
namespace Go.Proofs.Qxb6616818aFmt
open Go.RowKit

theorem zeros_len (n : Nat) : (Zeros n).toList.length = n := by simp [Zeros, size_madeCells]

set_option maxHeartbeats 1000000 in
set_option maxRecDepth 100000 in
theorem conn_any (base B G : Nat) (mp : Int) (rest : List Nat) (w : World) (hB : Buf w B G rest) (hbB : base ≤ B) (hG : G < w.heap.size) :
    Calls Tryf.prog 9 #[.pointer (some ⟨B, 0, none⟩), .int .i64 mp] w fun e w' => ∃ C R Q, e = .returned (.pointer (some ⟨C, 0, none⟩)) ∧ (B ≠ G → St w' base C R Q B G 0 mp rest) ∧ Keep (fun _ => False) w w' := by
  have HB := Hid.mk' hB
  have HC := Hid.mk' (newconn_any B mp w)
  clear hB
  go_enter Tryf.func9, Tryf.ntmps9
  go_wp2_with fail
  refine HC.out.mono ?_
  rintro e w1 ⟨C, R, Q, W, rfl, h1, h2, h3, h4, h5, h6, h7, h8, h9, h10⟩
  have H7 := Hid.mk' h7
  have H8 := Hid.mk' h8
  have H9 := Hid.mk' h9
  have H10 := Hid.mk' h10
  clear h7 h8 h9 h10
  go_wp2
  go_ret
  refine ⟨C, R, Q, rfl, fun hBG => ?_, H10.out⟩
  have hBlt : B < w.heap.size := by
    obtain ⟨a, l, c, off, lr, hr, _⟩ := HB.out
    exact hr.lt
  have l1 := H7.out.lt
  have l2 := H8.out.lt
  have l3 := H9.out.lt
  refine ⟨w1.heap.size, _, .slice none 0 0, ⟨⟨h4, by omega, by omega, by omega, by omega⟩, ⟨h5, h6, by omega, by omega, by omega⟩, ⟨by omega, by omega, by omega, by omega⟩, ⟨l2, l3, by omega, by omega, l1⟩, ⟨by omega, by omega, by omega, by omega, by omega⟩⟩, ⟨H7.out, rfl, rfl, rfl, rfl, rfl⟩, .inl rfl, ?_⟩
  exact ⟨0, 0, -1, -1, (Zeros 4096).toList, [], rest, H8.out, H9.out, zeros_len 4096, by omega, by omega, rfl, HB.out.keep H10.out (fun x => x) (fun x => x), rfl⟩

/-- a bytes.Buffer over a clone -/
theorem buf_clone {w : World} {B G n : Nat} {xs : List Nat} (h : Row w B 77 [.slice (some ⟨G, 0, none⟩) n n, .int .i64 0, .int .i8 0]) (hG : Row w G 5 (bv xs)) (hBG : B ≠ G) (hl : xs.length = n) (hn : n ≤ 1048576) : Buf w B G xs :=
  ⟨some ⟨G, 0, none⟩, n, n, 0, 0, h, by omega, by omega, hn, .inr ⟨bv xs, rfl, hBG, hG, by rw [bv_length]; exact hl, by rw [List.drop_zero, List.take_of_length_le (by rw [bv_length]; omega)]⟩⟩
theorem buf_nil {w : World} {B G : Nat} (h : Row w B 77 [.slice none 0 0, .int .i64 0, .int .i8 0]) : Buf w B G [] :=
  ⟨none, 0, 0, 0, 0, h, by omega, by omega, by omega, .inl ⟨rfl, rfl, rfl, rfl⟩⟩

theorem Reads.keep {S : Nat → Prop} {w w' : World} {a : Option Addr} {n : Nat} {xs : List Nat} (h : Reads w a n xs) (k : Keep S w w') (hS : ∀ i, S i → w.heap.size ≤ i) : Reads w' a n xs := by
  obtain ⟨h1, h2, h3⟩ := h
  refine ⟨h1, h2, ?_⟩
  rcases h3 with h3 | ⟨b, o, rfl, h3⟩
  · exact .inl h3
  · refine .inr ⟨b, o, rfl, fun j hj => k.cell (h3 j hj) (fun x => ?_)⟩
    have l := World.block_lt_of_cell? w _ (h3 j hj)
    have := hS _ x
    omega

set_option maxRecDepth 100000 in
theorem slice_reads (b o n cap pos m : Nat) (xs : List Nat) (w : World) (hx : Reads w (some ⟨b, o, none⟩) n xs) (hpm : pos + 4 + m ≤ n) (hn : n ≤ cap) :
    ∃ X c, (∀ w', (Instr.slice 24 (.slice (some ⟨b, o, none⟩) n cap) (some (.int .i64 ((pos : Int) + 4))) (some (.int .i64 ((pos : Int) + 4 + (m : Int)))) none).run Tryf.prog w' = .ok (.slice X m c) w') ∧ Reads w X m ((xs.drop (pos + 4)).take m) := by
  obtain ⟨h1, h2, h3⟩ := hx
  refine ⟨if cap = pos + 4 then some ⟨b, o, none⟩ else some ⟨b, o + (pos + 4), none⟩, cap - (pos + 4), fun w' => ?_, ?_⟩
  · have h := run_slice_lh (P := Tryf.prog) (w := w') 24 (some ⟨b, o, none⟩) n cap Tryf.underlying24 .i64 .i64 ((pos : Int) + 4) ((pos : Int) + 4 + (m : Int)) (by omega) (by omega) (by omega)
    rw [h]
    have e1 : ((pos : Int) + 4).toNat = pos + 4 := by omega
    have e2 : ((pos : Int) + 4 + (m : Int)).toNat = pos + 4 + m := by omega
    rw [e1, e2]
    have hsz : (sizeOf (Tryf.prog.elem 24)).run Tryf.prog w' = .ok 1 w' := by kernel_rfl
    rw [hsz]
    have e3 : pos + 4 + m - (pos + 4) = m := by omega
    have ea : (⟨b, o, none⟩ : Addr).add (pos + 4) = ⟨b, o + (pos + 4), none⟩ := by unfold Addr.add; split <;> simp_all
    simp only [Result.andThen, sliced, e3, Option.map_some, Nat.mul_one, ea]
  · have hl : ((xs.drop (pos + 4)).take m).length = m := by rw [List.length_take, List.length_drop]; omega
    refine ⟨hl, fun x hx => h2 x (List.mem_of_mem_drop (List.mem_of_mem_take hx)), ?_⟩
    by_cases hm : m = 0
    · exact .inl hm
    · rw [if_neg (by omega)]
      rcases h3 with h3 | ⟨b', o', he, h3⟩
      · omega
      · cases he
        refine .inr ⟨b, o + (pos + 4), rfl, fun j hj => ?_⟩
        have := h3 (pos + 4 + j) (by omega)
        rw [← Nat.add_assoc] at this
        rw [this]
        simp [List.getElem_take, List.getElem_drop]
end Go.Proofs.Qxb6616818aFmt
