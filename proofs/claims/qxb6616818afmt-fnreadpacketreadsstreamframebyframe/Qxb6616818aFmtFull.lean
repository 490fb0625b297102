/-
  io.ReadAtLeast, io.ReadFull over the bufio.Reader: the walks.
-/
import Derived.Test.Qxb6616818aFmtRdAll
import Derived.LaidEql
import Derived.Stop.IfaceNil
namespace Go.Proofs.Qxb6616818aFmt
open Go.RowKit

theorem Tryf.comp99 : (Tryf.prog.info? 99).map (·.comparable) = some true := by kernel_rfl
theorem Tryf.size101 : (Tryf.prog.info? 101).map (·.size) = some 1 := by kernel_rfl

/-- the blocks that a read may turn -/
def Mine (R Q B b : Nat) (k : Nat) : Prop := k = R ∨ k = Q ∨ k = B ∨ k = b

/-- what ReadFull hands back where too little is left -/
def IsErr (aE aU : Addr) (v : Value) : Prop := v = .iface 99 (.pointer (some aE)) ∨ v = .iface 99 (.pointer (some aU))

set_option maxHeartbeats 4000000 in
set_option maxRecDepth 100000 in
theorem full_any {tb : TypeId} (R Q B G b o m cap : Nat) (S : List Nat) (cur : List Value) (aE aU : Addr) (hm : 0 < m) (hm2 : m ≤ 1000000000) (hmc : m ≤ cap) (w : World) (ha : Apart R Q B G) (hbR : b ≠ R) (hbQ : b ≠ Q) (hbB : b ≠ B) (hbG : b ≠ G) (hlo : ∀ k, Mine R Q B b k → 7 ≤ k)
    (hE : w.cell? ⟨1, 0, none⟩ = some (.iface 99 (.pointer (some aE)))) (hU : w.cell? ⟨2, 0, none⟩ = some (.iface 99 (.pointer (some aU))))
    (h : Rdr w R Q B G S) (hb : Row w b tb cur) (hfit : o + m ≤ cur.length) :
    Calls Tryf.prog 56 #[.iface 56 (.pointer (some ⟨R, 0, none⟩)), .slice (some ⟨b, o, none⟩) m cap, .int .i64 (m : Int)] w fun e w' =>
      Keep (Mine R Q B b) w w' ∧ ((m ≤ S.length ∧ e = .returned (.tuple #[.int .i64 (m : Int), .nilIface]) ∧ Rdr w' R Q B G (S.drop m) ∧ Row w' b tb (put cur o (bv (S.take m)))) ∨
        (S.length < m ∧ ∃ x v, IsErr aE aU v ∧ e = .returned (.tuple #[.int .i64 x, v]))) := by
  have HH : Hid (Rdr w R Q B G S) := h
  have HB : Hid (Row w b tb cur) := hb
  have hme := method_rd
  have hnl := nil_rd
  clear h hb
  go_enter Tryf.func56, Tryf.ntmps56
  go_wp2
  go_loopw [6, 7] (fun t u wr => ∃ k : Nat, k ≤ m ∧ k ≤ S.length ∧ t = .int .i64 (k : Int) ∧ Rdr wr R Q B G (S.drop k) ∧ Row wr b tb (put cur o (bv (S.take k))) ∧ Keep (Mine R Q B b) w wr ∧ (u = .nilIface ∨ (u = .iface 99 (.pointer (some aE)) ∧ k = S.length ∧ k < m))) (fun t u _ => (match u with | .nilIface => 1 | _ => 0) + (m - (intOf t).toNat))
  case atStart => exact ⟨0, by omega, by omega, rfl, HH.out, by rw [List.take_zero]; show Row _ _ _ (put cur o []); rw [put_nil]; exact HB.out, Keep.refl _ _, .inl rfl⟩
  case round =>
    obtain ⟨k, hk1, hk2, rfl, hrd, hrow, hkp, hu⟩ := hrel
    have hE1 := hkp.cell hE (fun x => by have := hlo _ x; simp at this)
    have hU1 := hkp.cell hU (fun x => by have := hlo _ x; simp at this)
    have HRD := Hid.mk' hrd
    have HROW := Hid.mk' hrow
    have HKP := Hid.mk' hkp
    have HL := Hid.mk' hlo
    have HA := Hid.mk' ha
    clear hrd hrow hkp hE hU HH HB hlo ha
    rcases hu with rfl | ⟨rfl, hkS, hkm⟩
    · by_cases hlt : k < m
      · have i1 : (k : Int) < (m : Int) := by omega
        have i0 : (k : Int) ≤ (m : Int) := by omega
        have i2 : cap ≠ k := by omega
        by_cases hend : k < S.length
        · go_wp2
          go_region_held3 (fun _ => True) (trivial)
            ((go_at_call 84; refine (rd_some R Q B G b (o + k) (m - k) (cap - k) (S.drop k) _ (by omega) (by omega) (by rw [List.length_drop]; omega) _ HA.out hbR hbQ hbB hbG (HRD.out.keep (Keep.refl (fun _ => False) wr).drew (fun h => h) (fun h => h) (fun h => h) (fun h => h)) HROW.out.drew (by rw [put_length _ _ _ (by rw [bv_length, List.length_take]; omega)]; omega)).mono ?_; rintro e w2 ⟨n, hn0, hn1, hn2, rfl, g1, g2, g3⟩))
          have j1 : (k : Int) + (n : Int) ≤ (m : Int) := by omega
          rw [List.length_drop] at hn2
          have hr2 : Rdr w2 R Q B G (S.drop (k + n)) := by rw [← List.drop_drop]; exact g1
          have hb2 : Row w2 b tb (put cur o (bv (S.take (k + n)))) := by
            have e := put_put cur o (bv (S.take k)) (bv ((S.drop k).take n)) (by rw [bv_length, bv_length, List.length_take, List.length_take, List.length_drop]; omega)
            rw [bv_length, List.length_take, show min k S.length = k by omega, ← bv_append, ← List.take_add] at e
            rw [← e]; exact g2
          have hk2' : Keep (Mine R Q B b) w w2 := HKP.out.drew.trans g3
          have HR2 := Hid.mk' hr2
          have HB2 := Hid.mk' hb2
          have HK2 := Hid.mk' hk2'
          clear g1 g2 g3 hr2 hb2 hk2' HKP HRD HROW
          go_wp2
          go_roundw
          case rel => exact ⟨k + n, by omega, by omega, by go_num, HR2.out, HB2.out, HK2.out, .inl rfl⟩
          case measure => simp [intOf]; omega
        · have hkS : k = S.length := by omega
          have HKS := Hid.mk' hkS
          have hd : S.drop k = [] := by rw [hkS]; exact List.drop_length
          have hrd0 : Rdr wr R Q B G [] := by rw [← hd]; exact HRD.out
          have hrd0d : Rdr wr.drew R Q B G [] := hrd0.keep (Keep.refl (fun _ => False) wr).drew (fun h => h) (fun h => h) (fun h => h) (fun h => h)
          have HRD0 := Hid.mk' hrd0d
          clear hkS hd hrd0 hrd0d
          go_wp2
          go_region_held3 (fun _ => True) (trivial)
            ((go_at_call 84; refine (rd_end R Q B G b (o + k) (m - k) (cap - k) 99 aE (by omega) (by omega) wr.drew HA.out (fun x => by have := HL.out B (.inr (.inr (.inl rfl))); omega) (fun x => by have := HL.out R (.inl rfl); omega) hE1 HRD0.out).mono ?_; rintro e w2 ⟨rfl, g1, g3⟩))
          have hk2' : Keep (Mine R Q B b) w w2 := HKP.out.drew.trans (g3.mono (fun k _ x => by rcases x with x | x; exact .inl x; exact .inr (.inr (.inl x))))
          have hb2 : Row w2 b tb (put cur o (bv (S.take k))) := g3.row HROW.out.drew (fun x => by rcases x with x | x <;> omega)
          have hr2 : Rdr w2 R Q B G (S.drop k) := by rw [HKS.out, List.drop_length]; exact g1
          have HR2 := Hid.mk' hr2
          have HB2 := Hid.mk' hb2
          have HK2 := Hid.mk' hk2'
          clear g1 g3 hr2 hb2 hk2' HKP HRD HROW HRD0
          go_wp2
          go_roundw
          case rel => exact ⟨k, by omega, by omega, by go_num, HR2.out, HB2.out, HK2.out, .inr ⟨rfl, HKS.out, by omega⟩⟩
          case measure => simp [intOf]
      · have i1 : decide ((k : Int) < (m : Int)) = false := by simp; omega
        have i2 : (m : Int) ≤ (k : Int) := by omega
        go_wp2
        go_ret2
        obtain rfl : k = m := by omega
        exact ⟨HKP.out, .inl ⟨hk2, rfl, HRD.out, HROW.out⟩⟩
    · have i1 : (k : Int) < (m : Int) := by omega
      have i2 : ¬ (m : Int) ≤ (k : Int) := by omega
      have HKS := Hid.mk' hkS
      clear hkS hk2
      obtain ⟨i, hi, hcmp⟩ := Option.map_eq_some_iff.1 Tryf.comp99
      obtain ⟨j, hj, _⟩ := Option.map_eq_some_iff.1 Tryf.size101
      have heq := fun wx => run_eql_iface_ptr_same (P := Tryf.prog) wx aE Tryf.underlying30 Tryf.underlying99 hi hcmp hj
      by_cases hk0 : 0 < k
      · have i3 : (0 : Int) < (k : Int) := by omega
        go_wp2
        go_ret2
        exact ⟨HKP.out, .inr ⟨by have := HKS.out; omega, _, _, .inr rfl, rfl⟩⟩
      · have i3 : decide ((0 : Int) < (k : Int)) = false := by simp; omega
        go_wp2
        go_ret2
        exact ⟨HKP.out, .inr ⟨by have := HKS.out; omega, _, _, .inl rfl, rfl⟩⟩

/-- how a read of just m bytes ends -/
def FullEnd (tb : TypeId) (R Q B G b o m : Nat) (S : List Nat) (cur : List Value) (aE aU : Addr) (e : Ending) (w' : World) : Prop :=
  (m ≤ S.length ∧ e = .returned (.tuple #[.int .i64 (m : Int), .nilIface]) ∧ Rdr w' R Q B G (S.drop m) ∧ Row w' b tb (put cur o (bv (S.take m)))) ∨
    (S.length < m ∧ ∃ x v, IsErr aE aU v ∧ e = .returned (.tuple #[.int .i64 x, v]))

set_option maxHeartbeats 4000000 in
set_option maxRecDepth 100000 in
theorem readFull_any {tb : TypeId} (R Q B G b o m cap : Nat) (S : List Nat) (cur : List Value) (aE aU : Addr) (hm : 0 < m) (hm2 : m ≤ 1000000000) (hmc : m ≤ cap) (w : World) (ha : Apart R Q B G) (hbR : b ≠ R) (hbQ : b ≠ Q) (hbB : b ≠ B) (hbG : b ≠ G) (hlo : ∀ k, Mine R Q B b k → 7 ≤ k)
    (hE : w.cell? ⟨1, 0, none⟩ = some (.iface 99 (.pointer (some aE)))) (hU : w.cell? ⟨2, 0, none⟩ = some (.iface 99 (.pointer (some aU))))
    (h : Rdr w R Q B G S) (hb : Row w b tb cur) (hfit : o + m ≤ cur.length) :
    Calls Tryf.prog 47 #[.iface 56 (.pointer (some ⟨R, 0, none⟩)), .slice (some ⟨b, o, none⟩) m cap] w fun e w' => Keep (Mine R Q B b) w w' ∧ FullEnd tb R Q B G b o m S cur aE aU e w' := by
  have HC := Hid.mk' (full_any R Q B G b o m cap S cur aE aU hm hm2 hmc w ha hbR hbQ hbB hbG hlo hE hU h hb hfit)
  clear h hb hE hU ha hlo
  go_enter Tryf.func47, Tryf.ntmps47
  go_wp2_with fail
  refine HC.out.mono ?_
  rintro e w' ⟨hk, hc⟩
  rcases hc with ⟨h1, rfl, h2, h3⟩ | ⟨h1, x, v, hv, rfl⟩
  · go_wp2
    go_ret2
    exact ⟨hk, .inl ⟨h1, rfl, h2, h3⟩⟩
  · rcases hv with rfl | rfl
    · go_wp2
      go_ret2
      exact ⟨hk, .inr ⟨h1, _, _, .inl rfl, rfl⟩⟩
    · go_wp2
      go_ret2
      exact ⟨hk, .inr ⟨h1, _, _, .inr rfl, rfl⟩⟩
end Go.Proofs.Qxb6616818aFmt
