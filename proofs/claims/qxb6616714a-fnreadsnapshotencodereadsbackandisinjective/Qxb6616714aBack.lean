/-
  zzBytesEqual and FnReadSnapshotEncodeReadsBackAndIsInjective: the walks.
-/
import Derived.Test.Qxb6616714aApart
import Derived.Test.Qxb6616714aRead
namespace Go.Proofs.Qxb6616714a
open Go.RowKit

def eqB (l m : List UInt8) : Bool := decide (l = m)

theorem ext_num {l m : List UInt8} (hl : l.length = m.length) (h : ∀ j, j < l.length → byt l j = byt m j) : l = m := by
  apply List.ext_getElem hl
  intro j h1 h2
  have h3 := h j h1
  unfold byt at h3
  rw [List.getD_eq_getElem?_getD, List.getD_eq_getElem?_getD, List.getElem?_eq_getElem h1, List.getElem?_eq_getElem h2, Option.getD_some, Option.getD_some] at h3
  exact UInt8.toNat_inj.1 (by omega)

theorem eqB_true {l m : List UInt8} (hl : l.length = m.length) (h : ∀ j, j < l.length → byt l j = byt m j) : eqB l m = true := by
  unfold eqB; simp [ext_num hl h]
theorem eqB_len {l m : List UInt8} (hl : l.length ≠ m.length) : eqB l m = false := by
  unfold eqB; simp; intro h; exact hl (by rw [h])
theorem eqB_at {l m : List UInt8} {j : Nat} (h : byt l j ≠ byt m j) : eqB l m = false := by
  unfold eqB; simp; intro h2; exact h (by rw [h2])
theorem ret_bool {a b : Bool} (h : a = b) : Ending.returned (.bool a) = .returned (.bool b) := by rw [h]

set_option maxHeartbeats 1000000 in
set_option maxRecDepth 100000 in
theorem equal_any (g1 c1 g2 c2 : Nat) (l m : List UInt8) (w : World) (hl : l.length ≤ 1000) (hm : m.length ≤ 1000)
    (h1 : ∀ j, j < l.length → w.cell? ⟨g1, j, none⟩ = some (.int .u8 (byt l j))) (h2 : ∀ j, j < m.length → w.cell? ⟨g2, j, none⟩ = some (.int .u8 (byt m j))) :
    Calls Try.prog 18 #[.slice (some ⟨g1, 0, none⟩) l.length c1, .slice (some ⟨g2, 0, none⟩) m.length c2] w fun e w' => e = .returned (.bool (eqB l m)) ∧ ∃ q, w' = w.drewN q := by
  have H1 : Hid (∀ j, j < l.length → w.cell? ⟨g1, j, none⟩ = some (.int .u8 (byt l j))) := h1
  have H2 : Hid (∀ j, j < m.length → w.cell? ⟨g2, j, none⟩ = some (.int .u8 (byt m j))) := h2
  clear h1 h2
  have HT : Hid (l.length = m.length → (∀ j, j < l.length → byt l j = byt m j) → eqB l m = true) := eqB_true
  have HF : Hid (l.length ≠ m.length → eqB l m = false) := eqB_len
  have HA : Hid (∀ j, byt l j ≠ byt m j → eqB l m = false) := fun _ => eqB_at
  generalize byt l = y1 at *
  generalize byt m = y2 at *
  generalize eqB l m = r at *
  generalize l.length = n1 at *
  generalize m.length = n2 at *
  by_cases hn : n1 = n2
  · subst hn
    go_enter Try.func18, Try.ntmps18
    go_wp2
    go_loopw [5] (fun t wr => ∃ k q : Nat, k ≤ n1 ∧ t = .int .i64 (k : Int) ∧ wr = w.drewN q ∧ ∀ j, j < k → y1 j = y2 j) (fun t _ => n1 - (intOf t).toNat)
    case atStart => exact ⟨0, 0, by omega, rfl, rfl, fun j hj => absurd hj (by omega)⟩
    case round =>
      obtain ⟨k, q, hk, rfl, rfl, hall⟩ := hrel
      have HK : Hid (∀ j, j < k → y1 j = y2 j) := hall
      clear hall
      by_cases hlt : k < n1
      · have c1 := H1.out k hlt
        have c2 := H2.out k hlt
        have i1 : (k : Int) < (n1 : Int) := by omega
        by_cases he : y1 k = y2 k
        · have HE : Hid (y1 k = y2 k) := he
          rw [← he] at c2
          clear he
          go_wp2
          go_quiet (fail)
          go_wp2
          go_roundw
          case rel => exact ⟨k + 1, _, by omega, by go_num, rfl, fun j hj => by
            rcases Nat.lt_succ_iff_lt_or_eq.1 hj with h | h
            · exact HK.out j h
            · rw [h]; exact HE.out⟩
          case measure => simp [intOf]; omega
        · have HR := HA.out k he
          have hb : (y1 k != y2 k) = true := by rw [bne_iff_ne]; exact he
          clear he
          have HR2 : Hid (r = false) := HR
          clear HR
          go_wp2
          go_quiet (fail)
          go_wp2
          go_ret
          exact ⟨ret_bool HR2.out.symm, _, World.drewN_drewN _ _ _⟩
      · have i1 : ¬ (k : Int) < (n1 : Int) := by omega
        have hkn : k = n1 := by omega
        have HR : Hid (r = true) := HT.out (by trivial) (fun j hj => HK.out j (by omega))
        clear hkn
        go_wp2
        go_ret
        exact ⟨ret_bool HR.out.symm, _, rfl⟩
  · have HR : Hid (r = false) := HF.out hn
    have hb : ((n1 : Int) != (n2 : Int)) = true := by rw [bne_iff_ne]; omega
    go_enter Try.func18, Try.ntmps18
    go_wp2
    go_ret
    exact ⟨ret_bool HR.out.symm, 0, rfl⟩

theorem u64_inj {o o' : Int} (h1 : -9223372036854775808 ≤ o) (h2 : o ≤ 9223372036854775807) (h3 : -9223372036854775808 ≤ o') (h4 : o' ≤ 9223372036854775807) (h : u64 o = u64 o') : o = o' := by
  unfold u64 at h; omega
theorem enc_inj {p p' : Nat} {o o' : Int} (h : enc p o = enc p' o') : p = p' ∧ u64 o = u64 o' := by
  unfold enc at h
  injection h with _ h
  obtain ⟨h1, h2⟩ := Pl.uv_inj _ _ _ _ h
  have h3 : Lib.uvarint (u64 o) ++ [] = Lib.uvarint (u64 o') ++ [] := by rw [h2]
  exact ⟨h1, (Pl.uv_inj _ _ _ _ h3).1⟩
theorem eqB_ne {l m : List UInt8} (h : l ≠ m) : eqB l m = false := by unfold eqB; simp [h]

theorem byt_p (p : Nat) (o : Int) (k : Nat) (h : k < (Lib.uvarint p).length) : byt (enc p o) (1 + k) = (Pl.num (Lib.uvarint p) k : Int) := by
  unfold byt enc Pl.num
  rw [Nat.add_comm 1 k, List.getD_cons_succ]
  simp only [List.getD_eq_getElem?_getD]
  rw [List.getElem?_append_left h]
theorem byt_o (p : Nat) (o : Int) (k : Nat) : byt (enc p o) (1 + (Lib.uvarint p).length + k) = (Pl.num (Lib.uvarint (u64 o)) k : Int) := by
  unfold byt enc Pl.num
  rw [show 1 + (Lib.uvarint p).length + k = (Lib.uvarint p).length + k + 1 by omega, List.getD_cons_succ]
  simp only [List.getD_eq_getElem?_getD]
  rw [List.getElem?_append_right (by omega), Nat.add_sub_cancel_left]

set_option maxHeartbeats 1000000 in
set_option maxRecDepth 100000 in
theorem back_any (p1 : Nat) (hp1 : p1 < 18446744073709551616) (o1 : Int) (p2 : Nat) (hp2 : p2 < 18446744073709551616) (o2 : Int)
    (l1 : -9223372036854775808 ≤ o1) (l2 : o1 ≤ 9223372036854775807) (l3 : -9223372036854775808 ≤ o2) (l4 : o2 ≤ 9223372036854775807) (w : World) :
    Calls Try.prog 4 #[.int .u64 (p1 : Int), .int .i64 o1, .int .u64 (p2 : Int), .int .i64 o2] w fun e w' => e = .returned (.bool true) ∧ Below w.heap.size w w' := by
  have HP1 : Hid (p1 < 18446744073709551616) := hp1
  have HP2 : Hid (p2 < 18446744073709551616) := hp2
  have HU : Hid (u64 o1 = u64 o2 → o1 = o2) := u64_inj l1 l2 l3 l4
  have HW : Hid (IntKind.i64.wrap (u64 o1 : Int) = o1) := by
    show _ = _
    rw [u64_cast]; simp [IntKind.wrap, IntKind.signed, IntKind.bits]; omega
  clear hp1 hp2 l1 l2 l3 l4
  go_enter Try.func4, Try.ntmps4
  go_wp2_with fail
  refine (zzencode_any p1 HP1.out o1 _).mono ?_
  rintro e w1 ⟨v1, rfl, hown1, hb1⟩
  obtain ⟨g1, cap1, hv1, hg1, hgs1, hle1, hm1, hc1⟩ := row_of (by simp [enc]) hown1
  rw [hv1]
  clear hown1 hv1 v1
  go_wp2_with fail
  refine (zzencode_any p2 HP2.out o2 _).mono ?_
  rintro e w2 ⟨v2, rfl, hown2, hb2⟩
  obtain ⟨g2, cap2, hv2, hg2, hgs2, hle2, hm2, hc2⟩ := row_of (by simp [enc]) hown2
  rw [hv2]
  clear hown2 hv2 v2
  have hC1 : ∀ j, j < (enc p1 o1).length → w2.cell? ⟨g1, j, none⟩ = some (.int .u8 (byt (enc p1 o1) j)) := fun j hj => by
    rw [hb2.cell (p := ⟨g1, j, none⟩) (by show g1 < _; omega)]; exact hc1 j hj
  have hB : Below w.heap.size w w2 := hb1.trans (hb2.mono hb1.size)
  clear hb1 hb2 hc1 hgs1 hgs2 hg1 hg2
  have la1 := Lib.uvarint_length64 HP1.out
  have la2 := Lib.uvarint_length64 HP2.out
  have lb1 := Lib.uvarint_length64 (u64_lt o1)
  have lb2 := Lib.uvarint_length64 (u64_lt o2)
  have hE0 : w2.cell? ⟨g1, 0, none⟩ = some (.int .u8 16) := by
    rw [hC1 0 (by rw [enc_len]; omega)]; rfl
  have R1 : Hid (∀ n, n = (enc p1 o1).length → Calls Try.prog 17 #[.slice (some ⟨g1, 0, none⟩) n cap1, .int .i64 ((1 : Nat) : Int)] w2 fun e w' => e = .returned (.tuple #[.int .u64 (p1 : Int), .int .i64 (((1 : Nat) : Int) + ((Lib.uvarint p1).length : Int)), .bool true]) ∧ w2 = w') := by
    intro n hn
    subst hn
    exact read_any g1 _ cap1 1 p1 HP1.out w2 (by rw [enc_len]; omega) (Nat.le_trans hle1 hm1) (fun k hk => by rw [hC1 _ (by rw [enc_len]; omega), byt_p p1 o1 k hk])
  have R2 : Hid (∀ n, n = (enc p1 o1).length → Calls Try.prog 17 #[.slice (some ⟨g1, 0, none⟩) n cap1, .int .i64 ((1 + (Lib.uvarint p1).length : Nat) : Int)] w2 fun e w' => e = .returned (.tuple #[.int .u64 (u64 o1 : Int), .int .i64 (((1 + (Lib.uvarint p1).length : Nat) : Int) + ((Lib.uvarint (u64 o1)).length : Int)), .bool true]) ∧ w2 = w') := by
    intro n hn
    subst hn
    exact read_any g1 _ cap1 (1 + (Lib.uvarint p1).length) (u64 o1) (u64_lt o1) w2 (by rw [enc_len]; omega) (Nat.le_trans hle1 hm1) (fun k hk => by rw [hC1 _ (by rw [enc_len]; omega), byt_o p1 o1 k])
  have R3 : Hid (∀ n m, n = (enc p1 o1).length → m = (enc p2 o2).length → Calls Try.prog 18 #[.slice (some ⟨g1, 0, none⟩) n cap1, .slice (some ⟨g2, 0, none⟩) m cap2] w2 fun e w' => e = .returned (.bool (eqB (enc p1 o1) (enc p2 o2))) ∧ ∃ q, w' = w2.drewN q) := by
    intro n m hn hm
    subst hn hm
    exact equal_any g1 cap1 g2 cap2 _ _ w2 (by rw [enc_len]; omega) (by rw [enc_len]; omega) hC1 hc2
  have L1 : Hid (1 + (Lib.uvarint p1).length + (Lib.uvarint (u64 o1)).length = (enc p1 o1).length) := (enc_len _ _).symm
  have L2 : Hid (1 + (Lib.uvarint p2).length + (Lib.uvarint (u64 o2)).length = (enc p2 o2).length) := (enc_len _ _).symm
  clear hC1 hc2
  rw [enc_len, enc_len]
  generalize (Lib.uvarint p1).length = a1 at *
  generalize (Lib.uvarint p2).length = a2 at *
  generalize (Lib.uvarint (u64 o1)).length = b1 at *
  generalize (Lib.uvarint (u64 o2)).length = b2 at *
  go_wp2_with fail
  refine (R1.out _ L1.out).mono ?_
  rintro e w' ⟨rfl, rfl⟩
  go_wp2_with fail
  rw [show (1 : Int) + (a1 : Int) = ((1 + a1 : Nat) : Int) by omega]
  refine (R2.out _ L1.out).mono ?_
  rintro e w' ⟨rfl, rfl⟩
  have hw := HW.out
  go_wp2_with fail
  refine (R3.out _ _ L1.out L2.out).mono ?_
  rintro e w' ⟨rfl, q, rfl⟩
  clear hw
  by_cases hp : p1 = p2
  · by_cases ho : o1 = o2
    · have hr : eqB (enc p1 o1) (enc p2 o2) = true := by rw [hp, ho]; simp [eqB]
      subst hp ho
      go_wp2
      go_ret
      exact ⟨rfl, below_drewN hB _⟩
    · have hr : eqB (enc p1 o1) (enc p2 o2) = false := eqB_ne fun h => ho (HU.out (enc_inj h).2)
      have hob : (o1 == o2) = false := by simpa using ho
      subst hp
      go_wp2
      go_ret
      exact ⟨rfl, below_drewN hB _⟩
  · have hr : eqB (enc p1 o1) (enc p2 o2) = false := eqB_ne fun h => hp (enc_inj h).1
    have hpb : ((p1 : Int) == (p2 : Int)) = false := by simp; omega
    go_wp2
    go_ret
    exact ⟨rfl, below_drewN hB _⟩
end Go.Proofs.Qxb6616714a
