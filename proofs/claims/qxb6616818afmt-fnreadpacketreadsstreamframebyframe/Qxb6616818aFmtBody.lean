/-
  (*Conn).appendBody: the walk.
-/
import Derived.Test.Qxb6616818aFmtGrow
namespace Go.Proofs.Qxb6616818aFmt
open Go.RowKit

/-- block g0, where it holds bytes, holds as many -/
def Still (w w' : World) (g0 : Nat) : Prop := ∀ cur, Row w g0 5 cur → ∃ cur', Row w' g0 5 cur' ∧ cur'.length = cur.length

/-- how the reading of n bytes onto a payload ends -/
def BodyEnd (w : World) (N g0 R Q B G n : Nat) (xs S : List Nat) (aE aU : Addr) (e : Ending) (w' : World) : Prop :=
  (n ≤ S.length ∧ ∃ v, e = .returned (.tuple #[v, .nilIface]) ∧ Room w' N g0 v (xs ++ S.take n) ∧ Rdr w' R Q B G (S.drop n) ∧ Still w w' g0) ∨
    (S.length < n ∧ ∃ v, IsErr aE aU v ∧ e = .returned (.tuple #[.slice none 0 0, v]))

/-- a slice of bytes -/
def IsSl (v : Value) : Prop := ∃ a n c, v = .slice a n c
theorem Room.isSl {w : World} {N g0 : Nat} {v : Value} {xs : List Nat} (h : Room w N g0 v xs) : ∃ a c, v = .slice a xs.length c := by
  rcases h with ⟨rfl, rfl⟩ | ⟨g, c, cur, rfl, _⟩
  · exact ⟨none, 0, rfl⟩
  · exact ⟨_, c, rfl⟩

theorem full_ok {tb : TypeId} {f : Nat} {args : Array Value} {R Q B G b o m : Nat} {S : List Nat} {cur : List Value} {aE aU : Addr} {w : World} (h : Calls Tryf.prog f args w fun e w' => Keep (Mine R Q B b) w w' ∧ FullEnd tb R Q B G b o m S cur aE aU e w') (hm : m ≤ S.length) :
    Calls Tryf.prog f args w fun e w' => e = .returned (.tuple #[.int .i64 (m : Int), .nilIface]) ∧ Keep (Mine R Q B b) w w' ∧ Rdr w' R Q B G (S.drop m) ∧ Row w' b tb (put cur o (bv (S.take m))) := by
  refine h.mono ?_
  rintro e w' ⟨hk, hc⟩
  rcases hc with ⟨_, he, h2, h3⟩ | ⟨hl, _⟩
  · exact ⟨he, hk, h2, h3⟩
  · omega
theorem full_err {tb : TypeId} {f : Nat} {args : Array Value} {R Q B G b o m : Nat} {S : List Nat} {cur : List Value} {aE aU : Addr} {w : World} (h : Calls Tryf.prog f args w fun e w' => Keep (Mine R Q B b) w w' ∧ FullEnd tb R Q B G b o m S cur aE aU e w') (hm : S.length < m) :
    Calls Tryf.prog f args w fun e w' => ∃ x v, e = .returned (.tuple #[.int .i64 x, v]) ∧ IsErr aE aU v ∧ Keep (Mine R Q B b) w w' := by
  refine h.mono ?_
  rintro e w' ⟨hk, hc⟩
  rcases hc with ⟨hl, _⟩ | ⟨_, x, v, hv, he⟩
  · omega
  · exact ⟨x, v, he, hv, hk⟩

theorem Keep.then {S T : Nat → Prop} {a b c : World} (h : Keep S a b) (k : Keep T b c) (hs : ∀ i, i < a.heap.size → T i → S i) : Keep S a c :=
  ⟨k.os.trans h.os, k.tape.trans h.tape, k.output.trans h.output, Nat.le_trans h.size k.size, fun i hi hn => (k.block i (Nat.lt_of_lt_of_le hi h.size) (fun x => hn (hs i hi x))).trans (h.block i hi hn)⟩

set_option maxHeartbeats 4000000 in
set_option maxRecDepth 100000 in
theorem body_any (C R Q B G N g0 n : Nat) (p : Value) (xs S : List Nat) (aE aU : Addr) (hn : n ≤ 16777216) (hx : xs.length ≤ 16777216) (w : World) (hN : N = w.heap.size) (ha : Apart R Q B G) (hC : C ≠ R ∧ C ≠ Q ∧ C ≠ B ∧ C ≠ g0) (hg0 : g0 ≠ R ∧ g0 ≠ Q ∧ g0 ≠ B ∧ g0 ≠ G) (hlo : ∀ k, Mine R Q B g0 k → 7 ≤ k)
    (hlt : R < N ∧ Q < N ∧ B < N ∧ G < N ∧ C < N)
    (hE : w.cell? ⟨1, 0, none⟩ = some (.iface 99 (.pointer (some aE)))) (hU : w.cell? ⟨2, 0, none⟩ = some (.iface 99 (.pointer (some aU))))
    (hc0 : w.cell? ⟨C, 0, none⟩ = some (.pointer (some ⟨R, 0, none⟩))) (h : Rdr w R Q B G S) (hp : Room w N g0 p xs) :
    Calls Tryf.prog 48 #[.pointer (some ⟨C, 0, none⟩), p, .int .i64 (n : Int)] w fun e w' => Keep (Mine R Q B g0) w w' ∧ BodyEnd w N g0 R Q B G n xs S aE aU e w' := by
  obtain ⟨a0, c0, hpe⟩ := hp.isSl
  have HH := Hid.mk' h
  have HP := Hid.mk' hp
  have HPE := Hid.mk' hpe
  have HN := Hid.mk' hN
  clear h hp hN
  subst hpe
  go_enter Tryf.func48, Tryf.ntmps48
  go_wp2
  go_loopw [1, 2] (fun q t wr => ∃ k d : Nat, k + d = n ∧ k ≤ S.length ∧ t = .int .i64 (d : Int) ∧ Room wr N g0 q (xs ++ S.take k) ∧ Rdr wr R Q B G (S.drop k) ∧ Still w wr g0 ∧ Keep (Mine R Q B g0) w wr) (fun _ t _ => (intOf t).toNat)
  case atStart => exact ⟨0, n, by omega, by omega, rfl, by rw [List.take_zero, List.append_nil]; exact HP.out, HH.out, fun cur h => ⟨cur, h, rfl⟩, Keep.refl _ _⟩
  case round =>
    obtain ⟨k, d, hkd, hkS, rfl, hroom, hrd, hst0, hkp⟩ := hrel
    obtain ⟨a1, c1, hqe⟩ := hroom.isSl
    subst hqe
    have hE1 := hkp.cell hE (fun x => by have := hlo _ x; simp at this)
    have hU1 := hkp.cell hU (fun x => by have := hlo _ x; simp at this)
    have hC1 := hkp.cell hc0 (fun x => by rcases x with x | x | x | x <;> simp at x <;> omega)
    have HRO := Hid.mk' hroom
    have HRD := Hid.mk' hrd
    have HST := Hid.mk' hst0
    have HSZ := Hid.mk' (show w.heap.size ≤ wr.heap.size from hkp.size)
    have HKP := Hid.mk' hkp
    have HLO := Hid.mk' hlo
    have HA := Hid.mk' ha
    obtain ⟨L, hLd⟩ : ∃ L, xs.length + k = L := ⟨_, rfl⟩
    have hL : (xs ++ S.take k).length = L := by rw [List.length_append, List.length_take]; omega
    rw [hL]
    have HL := Hid.mk' hL
    have HLD := Hid.mk' hLd
    have hLb : L ≤ 40000000 := by omega
    clear hroom hrd hst0 hkp hE hU hc0 HH HP HPE hlo ha hL hLd
    by_cases hd : 0 < d
    · have i1 : (0 : Int) < (d : Int) := by omega
      obtain ⟨st, hst, hs0, hs1⟩ : ∃ st : Nat, min (d : Int) (max (L : Int) 16384) = (st : Int) ∧ 0 < st ∧ st ≤ d := ⟨min d (max L 16384), by omega, by omega, by omega⟩
      go_wp2_with fail
      clear hst
      have hcall := grow_any N g0 st _ _ wr (by have := HN.out; have := HKP.out.size; omega) hs0 (by rw [HL.out]; omega) HRO.out
      rw [HL.out] at hcall
      refine hcall.mono ?_
      rintro e w2 ⟨hk2, g, c2, cur, rfl, hg, hgc, hgm, hgr, hgl, hgt⟩
      rw [HL.out] at hgc hgt ⊢
      clear hcall
      have hne : g ≠ R ∧ g ≠ Q ∧ g ≠ B ∧ g ≠ G ∧ g ≠ C := by
        rcases hg with rfl | hg
        · omega
        · omega
      have hCw : w2.cell? ⟨C, 0, none⟩ = some (.pointer (some ⟨R, 0, none⟩)) := hk2.cell hC1 (fun h => h)
      have hE2 := hk2.cell hE1 (fun h => h)
      have hU2 := hk2.cell hU1 (fun h => h)
      have hRd2 : Rdr w2 R Q B G (S.drop k) := HRD.out.keep hk2 (fun h => h) (fun h => h) (fun h => h) (fun h => h)
      have hlo2 : ∀ i, Mine R Q B g i → 7 ≤ i := by
        intro i hi
        rcases hi with rfl | rfl | rfl | rfl
        · exact HLO.out _ (.inl rfl)
        · exact HLO.out _ (.inr (.inl rfl))
        · exact HLO.out _ (.inr (.inr (.inl rfl)))
        · rcases hg with rfl | hg
          · exact HLO.out _ (.inr (.inr (.inr rfl)))
          · have := HLO.out R (.inl rfl); omega
      have hkw : Keep (Mine R Q B g0) w w2 := HKP.out.then hk2 (fun _ _ x => x.elim)
      have hst2 : Still w w2 g0 := fun cur h => by
        obtain ⟨cur1, h1, h2⟩ := HST.out cur h
        exact ⟨cur1, hk2.row h1 (fun h => h), h2⟩
      have HST2 := Hid.mk' hst2
      have HF := Hid.mk' (readFull_any R Q B G g L st (c2 - L) (S.drop k) cur aE aU hs0 (by omega) (by omega) w2.drew HA.out hne.1 hne.2.1 hne.2.2.1 hne.2.2.2.1 hlo2 hE2 hU2 (hRd2.keep (Keep.refl (fun _ => False) w2).drew (fun h => h) (fun h => h) (fun h => h) (fun h => h)) hgr.drew (by omega))
      have dC : w2.drew.cell? ⟨C, 0, none⟩ = some (.pointer (some ⟨R, 0, none⟩)) := hCw
      have j1 : (L : Int) + (st : Int) ≤ (c2 : Int) := by omega
      have j0 : (0 : Int) ≤ (L : Int) := by omega
      have j2 : (0 : Int) ≤ (L : Int) + (st : Int) := by omega
      have j3 : (L : Int) ≤ (L : Int) + (st : Int) := by omega
      have j4 : c2 ≠ L := by omega
      have j5 : (L : Int) + (st : Int) ≤ 80000000 := by omega
      have HKW := Hid.mk' hkw
      have HGT := Hid.mk' hgt
      have HG := Hid.mk' hg
      have HGR := Hid.mk' hgr
      clear hgr
      clear HRO HRD hk2 hE1 hU1 hE2 hU2 hRd2 hlo2 hkw hgt hg HKP hC1 hst2
      have hsub : ∀ {w3}, Keep (Mine R Q B g) w2.drew w3 → Keep (Mine R Q B g0) w w3 := fun h => HKW.out.drew.then h (fun i hi x => by
        rcases x with x | x | x | x
        · exact .inl x
        · exact .inr (.inl x)
        · exact .inr (.inr (.inl x))
        · rcases HG.out with hg | hg
          · exact .inr (.inr (.inr (x.trans hg)))
          · have := HN.out; omega)
      have HSUB : Hid (∀ {w3}, Keep (Mine R Q B g) w2.drew w3 → Keep (Mine R Q B g0) w w3) := hsub
      have hCM : ¬ Mine R Q B g C := by rintro (x | x | x | x) <;> omega
      have HCM := Hid.mk' hCM
      clear hsub hCM
      by_cases hok : st ≤ (S.drop k).length
      · have HO := Hid.mk' (full_ok HF.out hok)
        rw [List.length_drop] at hok
        go_wp2
        go_region_held3 (fun w' => w'.cell? ⟨C, 0, none⟩ = some (.pointer (some ⟨R, 0, none⟩)))
          (first | exact dC | exact hk3.cell dC HCM.out)
          ((go_at_call 47; refine HO.out.mono ?_; rintro e w3 ⟨rfl, hk3, hr3, hb3⟩))
        have hk4 := HSUB.out hk3
        have hr4 : Rdr w3 R Q B G (S.drop (k + st)) := by rw [← List.drop_drop]; exact hr3
        have hL2 : (xs ++ S.take (k + st)).length = L + st := by have := HLD.out; rw [List.length_append, List.length_take]; omega
        have hq4 : Room w3 N g0 (.slice (some ⟨g, 0, none⟩) (L + st) c2) (xs ++ S.take (k + st)) := by
          refine .inr ⟨g, c2, _, by rw [hL2], HG.out, by omega, hgm, hb3, ?_, ?_⟩
          · rw [put_length _ _ _ (by rw [bv_length, List.length_take, List.length_drop]; omega), hgl]
          · have e := put_take cur L (bv ((S.drop k).take st)) (by omega)
            rw [bv_length, List.length_take, List.length_drop, show min st (S.length - k) = st by omega, HGT.out, ← bv_append, List.append_assoc, ← List.take_add] at e
            rw [hL2]; exact e
        have hst4 : Still w w3 g0 := fun cur0 h => by
          obtain ⟨cur1, h1, h2⟩ := HST2.out cur0 h
          by_cases hgg : g = g0
          · subst hgg
            have e1 := HGR.out
            unfold Row at e1 h1
            rw [e1] at h1
            simp at h1
            refine ⟨_, hb3, ?_⟩
            rw [put_length _ _ _ (by rw [bv_length, List.length_take, List.length_drop]; omega), h1, h2]
          · exact ⟨cur1, hk3.row h1.drew (by rintro (x | x | x | x) <;> omega), h2⟩
        have HS4 := Hid.mk' hst4
        have HK4 := Hid.mk' hk4
        have HR4 := Hid.mk' hr4
        have HQ4 := Hid.mk' hq4
        clear hk3 hr3 hb3 hk4 hr4 hq4 hst4 hL2 HO HF HSUB HGT HKW
        have i4 : (st : Int) ≤ (d : Int) := by omega
        go_wp2
        go_roundw
        case rel => exact ⟨k + st, d - st, by omega, by omega, by go_num, HQ4.out, HR4.out, HS4.out, HK4.out⟩
        case measure => simp [intOf]; omega
      · have HO := Hid.mk' (full_err HF.out (by omega))
        rw [List.length_drop] at hok
        go_wp2
        go_region_held3 (fun w' => w'.cell? ⟨C, 0, none⟩ = some (.pointer (some ⟨R, 0, none⟩)))
          (first | exact dC | exact hk3.cell dC HCM.out)
          ((go_at_call 47; refine HO.out.mono ?_; rintro e w3 ⟨x, v, rfl, hv, hk3⟩))
        have hk4 := HSUB.out hk3
        have HK4 := Hid.mk' hk4
        clear hk3 hk4 HO HF HSUB HGT HKW
        rcases hv with rfl | rfl
        · go_wp2
          go_ret2
          exact ⟨HK4.out, .inr ⟨by omega, _, .inl rfl, rfl⟩⟩
        · go_wp2
          go_ret2
          exact ⟨HK4.out, .inr ⟨by omega, _, .inr rfl, rfl⟩⟩
    · have i1 : ¬ (0 : Int) < (d : Int) := by omega
      obtain rfl : d = 0 := by omega
      go_wp2
      go_ret2
      refine ⟨HKP.out, .inl ⟨by omega, _, rfl, ?_, ?_, HST.out⟩⟩
      · obtain rfl : k = n := by omega
        have := HRO.out
        rw [HL.out] at this
        exact this
      · obtain rfl : k = n := by omega
        exact HRD.out
end Go.Proofs.Qxb6616818aFmt
