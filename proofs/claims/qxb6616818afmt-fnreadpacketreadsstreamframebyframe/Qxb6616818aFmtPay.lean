/-
  (*Conn).readPayload: the walk.
-/
import Derived.Test.Qxb6616818aFmtSmall
namespace Go.Proofs.Qxb6616818aFmt
open Go.RowKit Go.Extern.Stop Go.Stop Go.Extern

/-- where the parts of a connection lie -/
structure Lay (n base C R Q B G g0 : Nat) : Prop where
  ap : Apart R Q B G
  c : C ≠ R ∧ C ≠ Q ∧ C ≠ B ∧ C ≠ G ∧ C ≠ g0
  g : g0 ≠ R ∧ g0 ≠ Q ∧ g0 ≠ B ∧ g0 ≠ G
  lt : R < n ∧ Q < n ∧ B < n ∧ G < n ∧ C < n
  lo : base ≤ R ∧ base ≤ Q ∧ base ≤ B ∧ base ≤ C ∧ base ≤ g0

/-- the connection in block C: its reader, the number that is due, the longest payload, the room that is kept -/
structure ConnAt (w : World) (C R q : Nat) (mp : Int) (v : Value) (cc : List Value) : Prop where
  row : Row w C 61 cc
  len : cc.length = 41
  c0 : cc[0]? = some (.pointer (some ⟨R, 0, none⟩))
  c2 : cc[2]? = some (.int .u8 (q : Int))
  c3 : cc[3]? = some (.int .i64 mp)
  c4 : cc[4]? = some v

/-- the room that is kept: nil, or the head of block g0 -/
def Room0 (w : World) (g0 : Nat) (v : Value) : Prop :=
  v = .slice none 0 0 ∨ ∃ c cur, v = .slice (some ⟨g0, 0, none⟩) 0 c ∧ c ≤ 9223372036854775807 ∧ Row w g0 5 cur ∧ cur.length = c
theorem Room0.sl {w : World} {g0 : Nat} {v : Value} (h : Room0 w g0 v) : ∃ a c, v = .slice a 0 c := by
  rcases h with rfl | ⟨c, cur, rfl, _⟩
  · exact ⟨_, _, rfl⟩
  · exact ⟨_, _, rfl⟩
theorem Room0.room {w : World} {g0 : Nat} {v : Value} (h : Room0 w g0 v) (N : Nat) : Room w N g0 v [] := by
  rcases h with rfl | ⟨c, cur, rfl, h1, h2, h3⟩
  · exact .inl ⟨rfl, rfl⟩
  · exact .inr ⟨g0, c, cur, rfl, .inl rfl, Nat.zero_le _, h1, h2, h3, rfl⟩
theorem Room0.keep {S : Nat → Prop} {w w' : World} {g0 : Nat} {v : Value} (h : Room0 w g0 v) (k : Keep S w w') (hg : ¬ S g0) : Room0 w' g0 v := by
  rcases h with rfl | ⟨c, cur, rfl, h1, h2, h3⟩
  · exact .inl rfl
  · exact .inr ⟨c, cur, rfl, h1, k.row h2 hg, h3⟩

theorem Room0.keep' {S : Nat → Prop} {w w' : World} {g0 : Nat} {v : Value} (h : Room0 w g0 v) (k : Keep S w w') (hg : g0 < w.heap.size → ¬ S g0) : Room0 w' g0 v := by
  rcases h with rfl | ⟨c, cur, rfl, h1, h2, h3⟩
  · exact .inl rfl
  · exact .inr ⟨c, cur, rfl, h1, k.row h2 (hg h2.lt), h3⟩
theorem Still.of_keep {S : Nat → Prop} {w w' : World} {g0 : Nat} (k : Keep S w w') (hg : g0 < w.heap.size → ¬ S g0) : Still w w' g0 := fun cur h => ⟨cur, k.row h (hg h.lt), rfl⟩
theorem Still.trans {a b c : World} {g0 : Nat} (h : Still a b g0) (k : Still b c g0) : Still a c g0 := fun cur x => by
  obtain ⟨c1, x1, e1⟩ := h cur x
  obtain ⟨c2, x2, e2⟩ := k c1 x1
  exact ⟨c2, x2, e2.trans e1⟩

theorem Room.mono {w : World} {N M g0 : Nat} {v : Value} {xs : List Nat} (h : Room w N g0 v xs) (hNM : M ≤ N) : Room w M g0 v xs := by
  rcases h with h | ⟨g, c, cur, h1, h2, h3⟩
  · exact .inl h
  · exact .inr ⟨g, c, cur, h1, by rcases h2 with h2 | h2 <;> omega, h3⟩

/-- the blocks that the reading of a packet may turn -/
def Own (C R Q B g0 : Nat) (k : Nat) : Prop := k = C ∨ Mine R Q B g0 k

/-- nil and an error -/
def IsBad (e : Ending) : Prop := ∃ t y, e = .returned (.tuple #[.slice none 0 0, .iface t y])

/-- how the reading of a payload ends -/
def PayEnd (w : World) (C R Q B G g0 q : Nat) (mp : Int) (cc : List Value) (S : List Nat) (e : Ending) (w' : World) : Prop :=
  (frame? S q mp = none ∧ IsBad e) ∨
    ∃ n p, frame? S q mp = some n ∧ e = .returned (.tuple #[p, .nilIface]) ∧ Room w' w.heap.size g0 p ((S.drop 4).take n) ∧ Rdr w' R Q B G (S.drop (4 + n)) ∧ Still w w' g0 ∧ Row w' C 61 (cc.set 2 (.int .u8 (((q + 1) % 256 : Nat) : Int)))

theorem errorf_1' (F : Interp) (a : Addr) (s : ByteArray) (w : World) (hF : F.answers w.tape) (hs : w.cell? a = some (.string s)) :
    Calls Tryf.prog 27 #[.string F1, .slice (some ⟨w.heap.size, 0, none⟩) 1 1] (w.alloc (.cells #[.iface 99 (.pointer (some a))] 20)) fun e w' => IsWrap e ∧ Keep (fun _ => False) w w' :=
  (errorf_1 F w.heap.size a s (w.alloc (.cells #[.iface 99 (.pointer (some a))] 20)) hF (by simp) (by rw [World.cell?_alloc_lt _ _ _ (World.block_lt_of_cell? _ _ hs)]; exact hs)).mono fun _ _ h => ⟨h.1, ((Keep.refl _ w).alloc _).trans h.2⟩
theorem errorf_2' (F : Interp) (a : Addr) (s : ByteArray) (w : World) (hF : F.answers w.tape) (hs : w.cell? a = some (.string s)) :
    Calls Tryf.prog 27 #[.string F2, .slice (some ⟨w.heap.size, 0, none⟩) 1 1] (w.alloc (.cells #[.iface 99 (.pointer (some a))] 20)) fun e w' => IsWrap e ∧ Keep (fun _ => False) w w' :=
  (errorf_2 F w.heap.size a s (w.alloc (.cells #[.iface 99 (.pointer (some a))] 20)) hF (by simp) (by rw [World.cell?_alloc_lt _ _ _ (World.block_lt_of_cell? _ _ hs)]; exact hs)).mono fun _ _ h => ⟨h.1, ((Keep.refl _ w).alloc _).trans h.2⟩
theorem errorf_3' (F : Interp) (a : Addr) (s : ByteArray) (x y : Int) (w : World) (hF : F.answers w.tape) (hs : w.cell? a = some (.string s)) :
    Calls Tryf.prog 27 #[.string F3, .slice (some ⟨w.heap.size, 0, none⟩) 3 3] (w.alloc (.cells #[.iface 99 (.pointer (some a)), .iface 5 (.int .u8 x), .iface 5 (.int .u8 y)] 20)) fun e w' => IsWrap e ∧ Keep (fun _ => False) w w' :=
  (errorf_3 F w.heap.size a s x y (w.alloc (.cells #[.iface 99 (.pointer (some a)), .iface 5 (.int .u8 x), .iface 5 (.int .u8 y)] 20)) hF (by simp) (by simp) (by simp) (by rw [World.cell?_alloc_lt _ _ _ (World.block_lt_of_cell? _ _ hs)]; exact hs)).mono fun _ _ h => ⟨h.1, ((Keep.refl _ w).alloc _).trans h.2⟩

set_option maxHeartbeats 4000000 in
set_option maxRecDepth 100000 in
theorem pay_any (F : Interp) (base C R Q B G g0 q : Nat) (mp : Int) (v : Value) (cc : List Value) (S : List Nat) (aE aU aS aP : Addr) (w : World) (hF : F.answers w.tape) (hs : Sents w base aE aU aS aP) (hl : Lay w.heap.size base C R Q B G g0)
    (hc : ConnAt w C R q mp v cc) (hv : Room0 w g0 v) (hr : Rdr w R Q B G S) (hb : ∀ x ∈ S, x < 256) (hSl : S.length ≤ 1048576) :
    Calls Tryf.prog 41 #[.pointer (some ⟨C, 0, none⟩), .int .i64 mp] w fun e w' => Keep (Own C R Q B g0) w w' ∧ PayEnd w C R Q B G g0 q mp cc S e w' := by
  obtain ⟨a0, cap0, hve⟩ := hv.sl
  have k0 : w.cell? ⟨C, 0, none⟩ = some (.pointer (some ⟨R, 0, none⟩)) := (hc.row.cell 0).trans hc.c0
  have k4 : w.cell? ⟨C, 4, none⟩ = some (.slice a0 0 cap0) := (hc.row.cell 4).trans (hc.c4.trans (by rw [hve]))
  have HF := Hid.mk' hF
  have HS := Hid.mk' hs
  have HL := Hid.mk' hl
  have HC := Hid.mk' hc
  have HV := Hid.mk' hv
  have HR := Hid.mk' hr
  have HB := Hid.mk' hb
  have HVE := Hid.mk' hve
  clear hF hs hl hc hv hr hb hve
  go_enter Tryf.func41, Tryf.ntmps41
  go_wp2
  go_loopw [6] (fun t wr => t = .slice a0 0 cap0 ∧ wr = w) (fun _ _ => 0)
  case atStart => exact ⟨rfl, rfl⟩
  case round =>
    obtain ⟨rfl, rfl⟩ := hrel
    go_wp2
    have hH : Row (wr.alloc (.cells #[.int .u8 0, .int .u8 0, .int .u8 0, .int .u8 0] 59)) wr.heap.size 59 [.int .u8 0, .int .u8 0, .int .u8 0, .int .u8 0] := Row.newA _ _ _
    have hk1 : Keep (fun _ => False) wr (wr.alloc (.cells #[.int .u8 0, .int .u8 0, .int .u8 0, .int .u8 0] 59)) := (Keep.refl _ wr).alloc _
    generalize wr.alloc (.cells #[.int .u8 0, .int .u8 0, .int .u8 0, .int .u8 0] 59) = w1 at *
    have hHsz : Hid (wr.heap.size < w1.heap.size) := hH.lt
    obtain ⟨h, hh⟩ : ∃ h, wr.heap.size = h := ⟨_, rfl⟩
    rw [hh] at hH hHsz HL
    simp only [hh]
    have HH := Hid.mk' hh
    clear hh
    have hOwn : ∀ i, Own C R Q B g0 i → base ≤ i := fun i x => by
      obtain ⟨l1, l2, l3, l4, l5⟩ := HL.out.lo
      rcases x with x | x | x | x | x <;> omega
    have HOwn := Hid.mk' hOwn
    have hsub : ∀ {w2}, Keep (Mine R Q B h) w1.drew w2 → Keep (Own C R Q B g0) wr w2 := fun hk2 => ((hk1.mono (fun _ _ x => x.elim)).drew).then hk2 (fun i hi x => by
      rcases x with x | x | x | x
      · exact .inr (.inl x)
      · exact .inr (.inr (.inl x))
      · exact .inr (.inr (.inr (.inl x)))
      · have := HH.out; omega)
    have HSUB : Hid (∀ {w2}, Keep (Mine R Q B h) w1.drew w2 → Keep (Own C R Q B g0) wr w2) := hsub
    have d0 : w1.drew.cell? ⟨C, 0, none⟩ = some (.pointer (some ⟨R, 0, none⟩)) := hk1.cell k0 (fun x => x)
    have hCM : ¬ Mine R Q B h C := by
      obtain ⟨l1, l2, l3, l4, l5⟩ := HL.out.lt
      obtain ⟨m1, m2, m3, m4, m5⟩ := HL.out.c
      rintro (x | x | x | x) <;> omega
    have HCM := Hid.mk' hCM
    have hs1 : Sents w1 base aE aU aS aP := HS.out.keep hk1 (fun _ x => x.elim)
    have HFU := Hid.mk' (readFull_any (tb := 59) R Q B G h 0 4 4 S [.int .u8 0, .int .u8 0, .int .u8 0, .int .u8 0] aE aU (by omega) (by omega) (by omega) w1.drew HL.out.ap
      (by have := HL.out.lt.1; omega) (by have := HL.out.lt.2.1; omega) (by have := HL.out.lt.2.2.1; omega) (by have := HL.out.lt.2.2.2.1; omega)
      (fun k x => by
        have := HS.out.lo
        obtain ⟨l1, l2, l3, l4, l5⟩ := HL.out.lo
        obtain ⟨m1, m2, m3, m4, m5⟩ := HL.out.lt
        rcases x with x | x | x | x <;> omega)
      hs1.e hs1.u (HR.out.keep hk1.drew (fun x => x) (fun x => x) (fun x => x) (fun x => x)) hH.drew (by simp))
    clear hsub hCM hs1 hH hOwn
    obtain ⟨ci, hci, hcmp⟩ := Option.map_eq_some_iff.1 Tryf.comp99
    obtain ⟨cj, hcj, hcs⟩ := Option.map_eq_some_iff.1 Tryf.size101
    have heq := fun wx => run_eql_iface_ptr_same (P := Tryf.prog) wx aE Tryf.underlying30 Tryf.underlying99 hci hcmp hcj
    have hcs' : cj.size ≠ 0 := by omega
    clear hcs
    by_cases hS4 : S.length < 4
    · have HO := Hid.mk' (full_err HFU.out hS4)
      go_region_held3 (fun w' => w'.cell? ⟨C, 0, none⟩ = some (.pointer (some ⟨R, 0, none⟩)))
        (first | exact d0 | exact hk2.cell d0 HCM.out)
        ((go_at_call 47; refine HO.out.mono ?_; rintro e w2 ⟨x, v2, rfl, hv2, hk2⟩))
      have hk3 := HSUB.out hk2
      have hs2 := HS.out.keep hk3 HOwn.out
      clear hk2 HO HFU HSUB HR HV d0
      have hE2 := hs2.e
      rcases hv2 with rfl | rfl
      · go_wp2
        go_ret2
        exact ⟨hk3, .inl ⟨frame_short hS4 q mp, _, _, rfl⟩⟩
      · obtain ⟨ca, ta, hba⟩ := hs2.be
        obtain ⟨cb, tb, hbb⟩ := hs2.bu
        obtain ⟨sU, hsU⟩ := hs2.tu
        have hno := run_eql_iface_ptr_other (P := Tryf.prog) w2 Tryf.underlying30 Tryf.underlying99 hci hcmp hcj hcs' hs2.ne hbb hba
        have hFw : F.answers w2.tape := by rw [hk3.tape]; exact HF.out
        have HK3 := Hid.mk' hk3
        have HFW := Hid.mk' hFw
        have HSU := Hid.mk' hsU
        clear hk3 hs2 hba hbb hFw hsU heq
        go_wp2_with fail
        refine (errorf_1' F aU sU w2 HFW.out HSU.out).mono ?_
        rintro e w3 ⟨⟨t, y, rfl⟩, hk4⟩
        have hk5 := HK3.out.then hk4 (fun _ _ x => x.elim)
        have HK5 := Hid.mk' hk5
        clear hk4 hk5 hno
        go_wp2
        go_ret2
        exact ⟨HK5.out, .inl ⟨frame_short hS4 q mp, _, _, rfl⟩⟩
    · obtain ⟨b0, b1, b2, b3, r, rfl⟩ := four (S := S) (by omega)
      have HO := Hid.mk' (full_ok HFU.out (by simp))
      go_region_held3 (fun w' => w'.cell? ⟨C, 0, none⟩ = some (.pointer (some ⟨R, 0, none⟩)))
        (first | exact d0 | exact hk2.cell d0 HCM.out)
        ((go_at_call 47; refine HO.out.mono ?_; rintro e w2 ⟨rfl, hk2, hr2, hb2⟩))
      have hk3 := HSUB.out hk2
      have hkM : Keep (Mine R Q B h) wr w2 := (hk1.mono (fun _ _ x => x.elim)).drew.trans hk2
      have hs2 := HS.out.keep hk3 HOwn.out
      have hr2' : Rdr w2 R Q B G r := hr2
      have hb2' : Row w2 h 59 [.int .u8 (b0 : Int), .int .u8 (b1 : Int), .int .u8 (b2 : Int), .int .u8 (b3 : Int)] := hb2
      have hc2 : Row w2 C 61 cc := hkM.row HC.out.row HCM.out
      have hgM : g0 < wr.heap.size → ¬ Mine R Q B h g0 := fun hlt => by
        have := HH.out
        obtain ⟨m1, m2, m3, m4⟩ := HL.out.g
        rintro (x | x | x | x) <;> omega
      have hv2 : Room0 w2 g0 v := HV.out.keep' hkM hgM
      have hst2 : Still wr w2 g0 := Still.of_keep hkM hgM
      have e0 := hb2'.cell 0
      have e1 := hb2'.cell 1
      have e2 := hb2'.cell 2
      have e3 := hb2'.cell 3
      simp at e0 e1 e2 e3
      have q2 : w2.cell? ⟨C, 2, none⟩ = some (.int .u8 (q : Int)) := (hc2.cell 2).trans HC.out.c2
      have z2 : w2.frozen? ⟨C, 2, none⟩ = false := hc2.free 2
      have l0 : b0 < 256 := HB.out _ (by simp)
      have l1 : b1 < 256 := HB.out _ (by simp)
      have l2 : b2 < 256 := HB.out _ (by simp)
      have l3 : b3 < 256 := HB.out _ (by simp)
      have hhd := hdr_eq l0 l1 l2
      have hhl := hdrN_lt l0 l1 l2
      have hfr : frame? (b0 :: b1 :: b2 :: b3 :: r) q mp = if b3 = q ∧ (hdrN b0 b1 b2 : Int) ≤ mp ∧ hdrN b0 b1 b2 < 16777215 ∧ hdrN b0 b1 b2 ≤ r.length then some (hdrN b0 b1 b2) else none := rfl
      generalize hdrN b0 b1 b2 = n at *
      have HK3 := Hid.mk' hk3
      have HS2 := Hid.mk' hs2
      have HR2 := Hid.mk' hr2'
      have HC2 := Hid.mk' hc2
      have HV2 := Hid.mk' hv2
      have HST2 := Hid.mk' hst2
      have HFR := Hid.mk' hfr
      clear hk2 hk3 hkM hr2 hr2' hb2 hb2' hc2 hv2 hst2 hgM hfr HO HFU HSUB HR d0 hk1 k0 k4 hS4 HV
      by_cases g1 : b3 = q
      · have hne : ((b3 : Int) != (q : Int)) = false := by simp; omega
        have hw8 : IntKind.u8.wrap ((q : Int) + 1) = (((q + 1) % 256 : Nat) : Int) := by simp [IntKind.wrap, IntKind.signed, IntKind.bits]
        by_cases g2 : (n : Int) ≤ mp
        · have i1 : ¬ mp < (n : Int) := by omega
          go_wp2
          go_quiet (fail)
          go_wp2_with fail
          have hk4 : Keep (Own C R Q B g0) wr ((w2.drewN nq).setCell ⟨C, 2, none⟩ (.int .u8 (((q : Int) + 1) % 256))) := (HK3.out.drewN nq).setCell (fun _ => .inl rfl) _
          have hkC : Keep (fun k => k = C) w2 ((w2.drewN nq).setCell ⟨C, 2, none⟩ (.int .u8 (((q : Int) + 1) % 256))) := ((Keep.refl (fun k => k = C) w2).drewN nq).setCell (fun _ => rfl) _
          have hrC : Row ((w2.drewN nq).setCell ⟨C, 2, none⟩ (.int .u8 (((q : Int) + 1) % 256))) C 61 (cc.set 2 (.int .u8 (((q : Int) + 1) % 256))) := (HC2.out.drewN nq).set 2 _
          generalize (w2.drewN nq).setCell ⟨C, 2, none⟩ (.int .u8 (((q : Int) + 1) % 256)) = w4 at *
          have hs4 := HS.out.keep hk4 HOwn.out
          obtain ⟨lc1, lc2, lc3, lc4, lc5⟩ := HL.out.c
          obtain ⟨lg1, lg2, lg3, lg4⟩ := HL.out.g
          obtain ⟨ll1, ll2, ll3, ll4, ll5⟩ := HL.out.lt
          obtain ⟨lo1, lo2, lo3, lo4, lo5⟩ := HL.out.lo
          have hsz := hk4.size
          rw [HH.out] at hsz
          have hc0 : w4.cell? ⟨C, 0, none⟩ = some (.pointer (some ⟨R, 0, none⟩)) := by rw [hrC.cell 0, List.getElem?_set_ne (by omega)]; exact HC.out.c0
          have hst4 : Still wr w4 g0 := HST2.out.trans (Still.of_keep hkC (fun _ x => by omega))
          have hbody := body_any C R Q B G w4.heap.size g0 n v [] r aE aU (by omega) (by simp) w4 rfl HL.out.ap ⟨lc1, lc2, lc3, lc5⟩ ⟨lg1, lg2, lg3, lg4⟩
            (fun k x => by have := HS.out.lo; rcases x with x | x | x | x <;> omega) ⟨by omega, by omega, by omega, by omega, by omega⟩ hs4.e hs4.u hc0
            (HR2.out.keep hkC (fun x => by omega) (fun x => by omega) (fun x => by omega) (fun x => by omega)) ((HV2.out.keep hkC (fun x => by omega)).room _)
          rw [HVE.out] at hbody
          refine hbody.mono ?_
          rintro e w5 ⟨hk5, hend⟩
          have hCM5 : ¬ Mine R Q B g0 C := by rintro (x | x | x | x) <;> omega
          have hk6 : Keep (Own C R Q B g0) wr w5 := hk4.then hk5 (fun _ _ x => .inr x)
          have hs5 := HS.out.keep hk6 HOwn.out
          have hrC5 := hk5.row hrC hCM5
          have HK6 := Hid.mk' hk6
          have HRC5 := Hid.mk' hrC5
          have HST4 := Hid.mk' hst4
          have HHS := Hid.mk' hsz
          have HS5 := Hid.mk' hs5
          simp only [List.length_cons] at hSl
          clear hbody hk4 hkC hrC hs4 hsz hc0 hst4 hk5 hCM5 hk6 hs5 hrC5 e0 e1 e2 e3 q2 z2 hs2 hhd hne hw8 i1 lc1 lc2 lc3 lc4 lc5 lg1 lg2 lg3 lg4 ll1 ll2 ll3 ll4 ll5 lo1 lo2 lo3 lo4 lo5
          rcases hend with ⟨hnr, v5, rfl, hroom, hrd, hst⟩ | ⟨hnr, v5, hv5, rfl⟩
          · obtain ⟨a5, c5, hv5⟩ := hroom.isSl
            have HRO := Hid.mk' hroom
            have HRD := Hid.mk' hrd
            have HST := Hid.mk' hst
            clear hroom hrd hst
            have i2 : (n : Int) < 16777215 := by omega
            have HV5 := Hid.mk' hv5
            rw [hv5]
            clear hv5
            generalize ([] ++ r.take n).length = l5 at *
            go_wp2
            go_ret2
            refine ⟨HK6.out, .inr ⟨n, v5, by rw [HFR.out, if_pos ⟨g1, g2, by omega, hnr⟩], by rw [HV5.out]; rfl, ?_, ?_, HST4.out.trans HST.out, ?_⟩⟩
            · rw [HH.out]; exact HRO.out.mono HHS.out
            · rw [Nat.add_comm]; exact HRD.out
            · rw [show (((q + 1) % 256 : Nat) : Int) = ((q : Int) + 1) % 256 by omega]; exact HRC5.out
          · obtain ⟨sU, hsU⟩ := HS5.out.tu
            have hE5 := HS5.out.e
            have hU5 := HS5.out.u
            have hFw : F.answers w5.tape := by rw [HK6.out.tape]; exact HF.out
            have HE2 := Hid.mk' (errorf_2' F aU sU w5 hFw hsU)
            clear hFw hsU
            have hnone : frame? (b0 :: b1 :: b2 :: b3 :: r) q mp = none := by rw [HFR.out, if_neg (fun x => by omega)]
            have HN := Hid.mk' hnone
            clear hnone
            rcases hv5 with rfl | rfl
            · go_wp2_with fail
              refine HE2.out.mono ?_
              rintro e w6 ⟨⟨t, y, rfl⟩, hk7⟩
              have hk8 := HK6.out.then hk7 (fun _ _ x => x.elim)
              have HK8 := Hid.mk' hk8
              clear hk7 hk8
              go_wp2
              go_ret2
              exact ⟨HK8.out, .inl ⟨HN.out, _, _, rfl⟩⟩
            · obtain ⟨ca, ta, hba⟩ := HS5.out.be
              obtain ⟨cb, tb, hbb⟩ := HS5.out.bu
              have hno := run_eql_iface_ptr_other (P := Tryf.prog) w5 Tryf.underlying30 Tryf.underlying99 hci hcmp hcj hcs' HS5.out.ne hbb hba
              clear hba hbb heq
              go_wp2_with fail
              refine HE2.out.mono ?_
              rintro e w6 ⟨⟨t, y, rfl⟩, hk7⟩
              have hk8 := HK6.out.then hk7 (fun _ _ x => x.elim)
              have HK8 := Hid.mk' hk8
              clear hk7 hk8 hno
              go_wp2
              go_ret2
              exact ⟨HK8.out, .inl ⟨HN.out, _, _, rfl⟩⟩
        · have i1 : mp < (n : Int) := by omega
          go_wp2
          go_quiet (fail)
          go_wp2
          have hk4 : Keep (Own C R Q B g0) wr ((w2.drewN nq).setCell ⟨C, 2, none⟩ (.int .u8 (((q : Int) + 1) % 256))) := (HK3.out.drewN nq).setCell (fun _ => .inl rfl) _
          generalize (w2.drewN nq).setCell ⟨C, 2, none⟩ (.int .u8 (((q : Int) + 1) % 256)) = w4 at *
          have hP4 := (HS.out.keep hk4 HOwn.out).p
          have HK4 := Hid.mk' hk4
          clear hk4 e0 e1 e2 e3 q2 z2 hs2 hhd hne hw8 i1
          go_quiet (fail)
          go_wp2
          go_ret2
          exact ⟨HK4.out.drewN _, .inl ⟨by rw [HFR.out, if_neg (fun x => by omega)], _, _, rfl⟩⟩
      · have hne : ((b3 : Int) != (q : Int)) = true := by simp; omega
        go_wp2
        go_quiet (fail)
        go_wp2
        have hk4 : Keep (Own C R Q B g0) wr (w2.drewN nq) := HK3.out.drewN nq
        have f3 : (w2.drewN nq).drew.cell? ⟨3, 0, none⟩ = some (.iface 99 (.pointer (some aS))) := HS2.out.s
        have fh : (w2.drewN nq).drew.cell? ⟨h, 3, none⟩ = some (.int .u8 (b3 : Int)) := e3
        have fc : (w2.drewN nq).drew.cell? ⟨C, 2, none⟩ = some (.int .u8 (q : Int)) := q2
        obtain ⟨sS, hsS⟩ : ∃ x, (w2.drewN nq).drew.cell? aS = some (.string x) := HS2.out.ts
        have hFw : F.answers (w2.drewN nq).drew.tape := by show F.answers w2.tape; rw [HK3.out.tape]; exact HF.out
        have HE := Hid.mk' (errorf_3' F aS sS (b3 : Int) (q : Int) (w2.drewN nq).drew hFw hsS)
        generalize w2.drewN nq = w3 at *
        have HAL : Hid ((w3.drew.alloc (.cells #[.iface 99 (.pointer (some aS)), .iface 5 (.int .u8 (b3 : Int)), .iface 5 (.int .u8 (q : Int))] 20)).cell? ⟨3, 0, none⟩ = some (.iface 99 (.pointer (some aS))) ∧
            (w3.drew.alloc (.cells #[.iface 99 (.pointer (some aS)), .iface 5 (.int .u8 (b3 : Int)), .iface 5 (.int .u8 (q : Int))] 20)).cell? ⟨h, 3, none⟩ = some (.int .u8 (b3 : Int)) ∧
            (w3.drew.alloc (.cells #[.iface 99 (.pointer (some aS)), .iface 5 (.int .u8 (b3 : Int)), .iface 5 (.int .u8 (q : Int))] 20)).cell? ⟨C, 2, none⟩ = some (.int .u8 (q : Int))) :=
          ⟨by rw [World.cell?_alloc_lt _ _ _ (World.block_lt_of_cell? _ _ f3)]; exact f3, by rw [World.cell?_alloc_lt _ _ _ (World.block_lt_of_cell? _ _ fh)]; exact fh, by rw [World.cell?_alloc_lt _ _ _ (World.block_lt_of_cell? _ _ fc)]; exact fc⟩
        have HK4 := Hid.mk' hk4
        clear hk4 hFw hsS e0 e1 e2 e3 q2 z2 hs2 hhd hne heq
        go_region_held3 (fun w' => w'.cell? ⟨3, 0, none⟩ = some (.iface 99 (.pointer (some aS))) ∧ w'.cell? ⟨h, 3, none⟩ = some (.int .u8 (b3 : Int)) ∧ w'.cell? ⟨C, 2, none⟩ = some (.int .u8 (q : Int)))
          (first | exact ⟨f3, fh, fc⟩ | exact HAL.out | exact ⟨hk5.cell f3 (fun x => x), hk5.cell fh (fun x => x), hk5.cell fc (fun x => x)⟩)
          ((go_at_call 27; refine HE.out.mono ?_; rintro e w4 ⟨⟨t, y, rfl⟩, hk5⟩))
        have hk6 := (HK4.out.drew).then hk5 (fun _ _ x => x.elim)
        have HK6 := Hid.mk' hk6
        clear hk5 hk6 f3 fh fc
        go_wp2
        go_ret2
        exact ⟨HK6.out, .inl ⟨by rw [HFR.out, if_neg (fun x => g1 x.1)], _, _, rfl⟩⟩
end Go.Proofs.Qxb6616818aFmt
