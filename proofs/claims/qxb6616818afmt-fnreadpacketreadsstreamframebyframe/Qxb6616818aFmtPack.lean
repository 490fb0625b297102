/-
  (*Conn).readPacket, ReadPacket: the walks.
-/
import Derived.Test.Qxb6616818aFmtPay
namespace Go.Proofs.Qxb6616818aFmt
open Go.RowKit Go.Extern.Stop Go.Stop Go.Extern

/-- a connection that is due to read packet q, and what is still to be read -/
def St (w : World) (base C R Q B G q : Nat) (mp : Int) (S : List Nat) : Prop :=
  ∃ g0 cc v, Lay w.heap.size base C R Q B G g0 ∧ ConnAt w C R q mp v cc ∧ Room0 w g0 v ∧ Rdr w R Q B G S

theorem Lay.mono {n m base C R Q B G g0 : Nat} (h : Lay n base C R Q B G g0) (hnm : n ≤ m) : Lay m base C R Q B G g0 := by
  obtain ⟨l1, l2, l3, l4, l5⟩ := h.lt
  exact ⟨h.ap, h.c, h.g, ⟨by omega, by omega, by omega, by omega, by omega⟩, h.lo⟩

theorem Room.keep {S : Nat → Prop} {w w' : World} {N g0 : Nat} {v : Value} {xs : List Nat} (h : Room w N g0 v xs) (k : Keep S w w') (hg : ¬ S g0) (hN : ∀ g, N ≤ g → ¬ S g) : Room w' N g0 v xs := by
  rcases h with h | ⟨g, c, cur, h1, h2, h3, h4, h5, h6⟩
  · exact .inl h
  · refine .inr ⟨g, c, cur, h1, h2, h3, h4, k.row h5 ?_, h6⟩
    rcases h2 with rfl | h2
    · exact hg
    · exact hN g h2

theorem room_reads {w : World} {N g0 l c : Nat} {a : Option Addr} {xs : List Nat} (h : Room w N g0 (.slice a l c) xs) (hb : ∀ x ∈ xs, x < 256) : xs.length = l ∧ Reads w a l xs := by
  rcases h with ⟨h1, rfl⟩ | ⟨g, c', cur, h1, h2, h3, h4, h5, h6, h7⟩
  · cases h1
    exact ⟨rfl, rfl, hb, .inl rfl⟩
  · cases h1
    refine ⟨rfl, rfl, hb, .inr ⟨g, 0, rfl, fun j hj => ?_⟩⟩
    rw [Nat.zero_add, h5.cell j, ← bv_at hj, ← h7, List.getElem?_take_of_lt hj]

theorem st_new {w w1 : World} {base C R Q B G g0 q q' l c : Nat} {mp : Int} {v : Value} {a : Option Addr} {cc : List Value} {xs S' : List Nat} (hl : Lay w.heap.size base C R Q B G g0) (hc : ConnAt w C R q mp v cc) (hsz : w.heap.size ≤ w1.heap.size)
    (hroom : Room w1 w.heap.size g0 (.slice a l c) xs) (hrd : Rdr w1 R Q B G S') (hrow : Row w1 C 61 (cc.set 2 (.int .u8 (q' : Int)))) : St (w1.setCell ⟨C, 4, none⟩ (.slice a 0 c)) base C R Q B G q' mp S' := by
  have hk : Keep (fun k => k = C) w1 (w1.setCell ⟨C, 4, none⟩ (.slice a 0 c)) := (Keep.refl (fun k => k = C) w1).setCell (fun _ => rfl) _
  obtain ⟨lc1, lc2, lc3, lc4, lc5⟩ := hl.c
  obtain ⟨lg1, lg2, lg3, lg4⟩ := hl.g
  obtain ⟨ll1, ll2, ll3, ll4, ll5⟩ := hl.lt
  obtain ⟨lo1, lo2, lo3, lo4, lo5⟩ := hl.lo
  have hrd2 : Rdr (w1.setCell ⟨C, 4, none⟩ (.slice a 0 c)) R Q B G S' := hrd.keep hk (fun x => by omega) (fun x => by omega) (fun x => by omega) (fun x => by omega)
  have hrow2 := hrow.set 4 (.slice a 0 c)
  have hca : ConnAt (w1.setCell ⟨C, 4, none⟩ (.slice a 0 c)) C R q' mp (.slice a 0 c) ((cc.set 2 (.int .u8 (q' : Int))).set 4 (.slice a 0 c)) := by
    refine ⟨hrow2, by simp [hc.len], ?_, ?_, ?_, ?_⟩
    · rw [List.getElem?_set_ne (by omega), List.getElem?_set_ne (by omega)]; exact hc.c0
    · rw [List.getElem?_set_ne (by omega), List.getElem?_set_self (by rw [hc.len]; omega)]
    · rw [List.getElem?_set_ne (by omega), List.getElem?_set_ne (by omega)]; exact hc.c3
    · rw [List.getElem?_set_self (by rw [List.length_set, hc.len]; omega)]
  have hsz2 := hk.size
  rcases hroom with ⟨h1, rfl⟩ | ⟨g, c', cur, h1, h2, h3, h4, h5, h6, h7⟩
  · cases h1
    exact ⟨g0, _, _, hl.mono (by omega), hca, .inl rfl, hrd2⟩
  · cases h1
    refine ⟨g, _, _, ⟨hl.ap, ⟨lc1, lc2, lc3, lc4, by rcases h2 with rfl | h2 <;> omega⟩, ?_, ⟨by omega, by omega, by omega, by omega, by omega⟩, ⟨lo1, lo2, lo3, lo4, by rcases h2 with rfl | h2 <;> omega⟩⟩, hca, .inr ⟨c, cur, rfl, h4, hk.row h5 ?_, h6⟩, hrd2⟩
    · rcases h2 with rfl | h2
      · exact hl.g
      · exact ⟨by omega, by omega, by omega, by omega⟩
    · rcases h2 with rfl | h2 <;> omega

theorem st_old {w w1 : World} {base C R Q B G g0 q q' : Nat} {mp : Int} {v : Value} {cc : List Value} {S' : List Nat} (hl : Lay w.heap.size base C R Q B G g0) (hc : ConnAt w C R q mp v cc) (hv : Room0 w g0 v) (hsz : w.heap.size ≤ w1.heap.size)
    (hst : Still w w1 g0) (hrd : Rdr w1 R Q B G S') (hrow : Row w1 C 61 (cc.set 2 (.int .u8 (q' : Int)))) : St w1 base C R Q B G q' mp S' := by
  refine ⟨g0, _, v, hl.mono hsz, ⟨hrow, by simp [hc.len], ?_, ?_, ?_, ?_⟩, ?_, hrd⟩
  · rw [List.getElem?_set_ne (by omega)]; exact hc.c0
  · rw [List.getElem?_set_self (by rw [hc.len]; omega)]
  · rw [List.getElem?_set_ne (by omega)]; exact hc.c3
  · rw [List.getElem?_set_ne (by omega)]; exact hc.c4
  · rcases hv with rfl | ⟨c, cur, rfl, h1, h2, h3⟩
    · exact .inl rfl
    · obtain ⟨cur', h4, h5⟩ := hst cur h2
      exact .inr ⟨c, cur', rfl, h1, h4, h5.trans h3⟩

/-- how the reading of a packet ends -/
def PackEnd (base C R Q B G q : Nat) (mp : Int) (S : List Nat) (e : Ending) (w' : World) : Prop :=
  (frame? S q mp = none ∧ IsBad e) ∨
    ∃ n a c, frame? S q mp = some n ∧ e = .returned (.tuple #[.slice a n c, .nilIface]) ∧ Reads w' a n ((S.drop 4).take n) ∧ St w' base C R Q B G ((q + 1) % 256) mp (S.drop (4 + n))

theorem frame_le {S : List Nat} {q n : Nat} {mp : Int} (h : frame? S q mp = some n) : 4 + n ≤ S.length ∧ n < 16777215 := by
  unfold frame? at h
  split at h
  · split at h
    · simp only [Option.some.injEq] at h
      subst h
      simp only [List.length_cons]
      omega
    · cases h
  · cases h

set_option maxHeartbeats 4000000 in
set_option maxRecDepth 100000 in
theorem rp_any (F : Interp) (base C R Q B G q : Nat) (mp : Int) (S : List Nat) (aE aU aS aP : Addr) (w : World) (hF : F.answers w.tape) (hs : Sents w base aE aU aS aP) (hst : St w base C R Q B G q mp S) (hb : ∀ x ∈ S, x < 256) (hSl : S.length ≤ 1048576) :
    Calls Tryf.prog 29 #[.pointer (some ⟨C, 0, none⟩), .int .i64 mp] w fun e w' => Keep (fun k => base ≤ k) w w' ∧ PackEnd base C R Q B G q mp S e w' := by
  obtain ⟨g0, cc, v, hl, hc, hv, hr⟩ := hst
  have HP := Hid.mk' (pay_any F base C R Q B G g0 q mp v cc S aE aU aS aP w hF hs hl hc hv hr hb hSl)
  have HL := Hid.mk' hl
  have HC := Hid.mk' hc
  have HV := Hid.mk' hv
  have HB := Hid.mk' hb
  clear hF hs hl hc hv hr hb
  have hOwn : ∀ i, Own C R Q B g0 i → base ≤ i := fun i x => by
    obtain ⟨l1, l2, l3, l4, l5⟩ := HL.out.lo
    rcases x with x | x | x | x | x <;> omega
  have HOwn := Hid.mk' hOwn
  clear hOwn
  go_enter Tryf.func29, Tryf.ntmps29
  go_wp2_with fail
  refine HP.out.mono ?_
  rintro e w1 ⟨hk, hend⟩
  have hk1 : Keep (fun k => base ≤ k) w w1 := hk.mono (fun k _ x => HOwn.out k x)
  have HK := Hid.mk' hk1
  clear hk hk1 HP
  rcases hend with ⟨hf, t, y, rfl⟩ | ⟨n, p, hf, rfl, hroom, hrd, hst, hrow⟩
  · go_wp2
    go_ret2
    exact ⟨HK.out, .inl ⟨hf, _, _, rfl⟩⟩
  · obtain ⟨a, c, hp⟩ := hroom.isSl
    have hfl := frame_le hf
    have hlen : ((S.drop 4).take n).length = n := by rw [List.length_take, List.length_drop]; omega
    rw [hlen] at hp
    subst hp
    have hbb : ∀ x ∈ (S.drop 4).take n, x < 256 := fun x hx => HB.out x (List.mem_of_mem_drop (List.mem_of_mem_take hx))
    have k4 : ∃ u, w1.cell? ⟨C, 4, none⟩ = some u := by
      refine ⟨v, ?_⟩
      rw [hrow.cell 4, List.getElem?_set_ne (by omega)]; exact HC.out.c4
    obtain ⟨u, k4⟩ := k4
    have z4 := hrow.free 4
    by_cases hcap : c ≤ 65536
    · have i1 : (c : Int) ≤ 65536 := by omega
      have i2 : (0 : Int) ≤ (c : Int) := by omega
      have hk2 : Keep (fun k => base ≤ k) w (w1.setCell ⟨C, 4, none⟩ (.slice a 0 c)) := HK.out.setCell (fun _ => HL.out.lo.2.2.2.1) _
      have hS2 := st_new HL.out HC.out HK.out.size hroom hrd hrow
      have hR2 := room_reads (hroom.keep ((Keep.refl (fun k => k = C) w1).setCell (p := ⟨C, 4, none⟩) (fun _ => rfl) (.slice a 0 c)) (fun x => HL.out.c.2.2.2.2 x.symm) (fun g hg x => by have := HL.out.lt.2.2.2.2; omega)) hbb
      have HK2 := Hid.mk' hk2
      have HS2 := Hid.mk' hS2
      have HR2 := Hid.mk' hR2
      have HFR := Hid.mk' hf
      clear hk2 hS2 hR2 hf hroom hrd hst hrow hlen hbb
      go_wp2
      go_ret2
      exact ⟨HK2.out, .inr ⟨n, a, c, HFR.out, rfl, HR2.out.2, HS2.out⟩⟩
    · have i1 : ¬ (c : Int) ≤ 65536 := by omega
      have hS2 := st_old HL.out HC.out HV.out HK.out.size hst hrd hrow
      have hR2 := room_reads hroom hbb
      have HS2 := Hid.mk' hS2
      have HR2 := Hid.mk' hR2
      have HFR := Hid.mk' hf
      clear hS2 hR2 hf hroom hrd hst hrow hlen hbb
      go_wp2
      go_ret2
      exact ⟨HK.out, .inr ⟨n, a, c, HFR.out, rfl, HR2.out.2, HS2.out⟩⟩

set_option maxHeartbeats 4000000 in
set_option maxRecDepth 100000 in
theorem pack_any (F : Interp) (base C R Q B G q : Nat) (mp : Int) (S : List Nat) (aE aU aS aP : Addr) (w : World) (hF : F.answers w.tape) (hs : Sents w base aE aU aS aP) (hst : St w base C R Q B G q mp S) (hb : ∀ x ∈ S, x < 256) (hSl : S.length ≤ 1048576) :
    Calls Tryf.prog 12 #[.pointer (some ⟨C, 0, none⟩)] w fun e w' => Keep (fun k => base ≤ k) w w' ∧ PackEnd base C R Q B G q mp S e w' := by
  have HP := Hid.mk' (rp_any F base C R Q B G q mp S aE aU aS aP w hF hs hst hb hSl)
  obtain ⟨g0, cc, v, hl, hc, hv, hr⟩ := hst
  have k3 : w.cell? ⟨C, 3, none⟩ = some (.int .i64 mp) := (hc.row.cell 3).trans hc.c3
  clear hF hs hl hc hv hr hb
  go_enter Tryf.func12, Tryf.ntmps12
  go_wp2_with fail
  refine HP.out.mono ?_
  rintro e w1 ⟨hk, hend⟩
  have HK := Hid.mk' hk
  clear hk
  rcases hend with ⟨hf, t, y, rfl⟩ | ⟨n, a, c, hf, rfl, hrd, hst⟩
  · go_wp2
    go_ret2
    exact ⟨HK.out, .inl ⟨hf, _, _, rfl⟩⟩
  · have HR := Hid.mk' hrd
    have HS := Hid.mk' hst
    have HFR := Hid.mk' hf
    clear hrd hst hf
    go_wp2
    go_ret2
    exact ⟨HK.out, .inr ⟨n, a, c, HFR.out, rfl, HR.out, HS.out⟩⟩
end Go.Proofs.Qxb6616818aFmt
