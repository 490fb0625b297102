/-
  FnTextOfATextPartPutInAnywhere: the walk.
-/
import Derived.Test.Qxb6616796aText
import Derived.Test.Qxb6616796aBytes
namespace Go.Proofs.Qxb6616796a
open Go.RowKit

/-- the part that is put in -/
def ptxt (t : ByteArray) : PV := ⟨⟨#[116, 101, 120, 116]⟩, t, ⟨#[]⟩, ⟨#[]⟩, ⟨#[]⟩, ⟨#[]⟩, none, 0, 0, none, 0, 0, none⟩

theorem own_form {w : World} {B n : Nat} {v : Value} {qs : List PV} (hpos : 0 < n) (h : w.ownsRow B 33 15 v n (flat qs)) : ∃ g cap, v = .slice (some ⟨g, 0, none⟩) n cap := by
  rcases h.2 with ⟨_, h0⟩ | ⟨g, cap, cur, hv, _⟩
  · omega
  · exact ⟨g, cap, hv⟩

theorem flat_append (a b : List PV) : flat (a ++ b) = flat a ++ flat b := by simp [flat]
theorem flat_one (qs : List PV) : ∀ u ∈ flat qs, u.oneCell' = true := by
  intro u hu
  obtain ⟨q, _, hq⟩ := List.mem_flatMap.1 hu
  exact PV.cells_one q u hq
theorem own_cell {w : World} {B : Nat} {e : TypeId} {size g n cap : Nat} {xs : List Value} (h : w.ownsRow B e size (.slice (some ⟨g, 0, none⟩) n cap) n xs) (j : Nat) (u : Value) (hj : xs[j]? = some u) : w.cell? ((⟨g, 0, none⟩ : Addr).add j) = some u := by
  rcases h.2 with ⟨hv, _⟩ | ⟨g', cap', cur, hv, hg, hh, hle, hm, hs, ht⟩
  · cases hv
  · cases hv
    have e2 : (⟨g, 0, none⟩ : Addr).add j = ⟨g, j, none⟩ := by unfold Addr.add; split <;> simp_all
    rw [e2, cell_at j hh]
    rw [← ht, List.getElem?_take] at hj
    split at hj
    · simpa using hj
    · cases hj

theorem txLen_append (a b : List (ByteArray × ByteArray)) : txLen (a ++ b) = txLen a + txLen b := by simp [txLen]
theorem txLen_heads (ps : Nat → LP) (n : Nat) : txLen (heads ps n) = txSum ps n := by
  induction n with
  | zero => rfl
  | succ n ih => rw [heads_succ, txLen_snoc, ih]; rfl
theorem txSum_split (ps : Nat → LP) (i m : Nat) : txSum ps (i + m) = txSum ps i + txSum (fun j => ps (i + j)) m := by
  induction m with
  | zero => simp [txSum]
  | succ m ih => rw [← Nat.add_assoc, txSum, ih, txSum]; omega
theorem sel_ptxt (t : ByteArray) : sel (ptxt t).tt = t.data.toList := by
  show (if ((⟨#[116, 101, 120, 116]⟩ : ByteArray).toList == [116, 101, 120, 116]) = true then t.data.toList else []) = _
  rw [if_pos (by decide +kernel)]

theorem ret_bool {a b : Bool} (h : a = b) : Ending.returned (.bool a) = .returned (.bool b) := by rw [h]
theorem fin_eq {z1 z2 z3 : List UInt8} {t : ByteArray} (h : z1 = z2 ++ t.data.toList ++ z3) : (z1 == ((⟨z2.toArray⟩ : ByteArray) ++ t ++ (⟨z3.toArray⟩ : ByteArray)).toList) = true := by
  rw [beq_iff_eq, h]
  simp [ByteArray.toList_eq]

/-- a new message that holds the parts v -/
def Msg (v : Value) : Obj := .cells #[.string ⟨#[]⟩, .string ⟨#[]⟩, .string ⟨#[]⟩, .string ⟨#[]⟩, .string ⟨#[]⟩, .string ⟨#[]⟩, .pointer none, .pointer none, .pointer none, v, .nilFunc] 44

/-- A MESSAGE AND ITS PARTS, as they lie -/
structure MsgAt (w : World) (m g n cap : Nat) (qs : List PV) : Prop where
  cell : w.cell? ⟨m, 9, none⟩ = some (.slice (some ⟨g, 0, none⟩) n cap)
  row : Row33 w g n qs
theorem MsgAt.kept {w w' : World} {m g n cap : Nat} {qs : List PV} (h : MsgAt w m g n cap qs) (hb : Below w.heap.size w w') : MsgAt w' m g n cap qs :=
  ⟨cell_kept hb (Nat.le_refl _) h.cell, h.row.kept (Nat.le_refl _) hb⟩
theorem msg_made {w : World} {g n cap : Nat} {qs : List PV} (h : Row33 w g n qs) : MsgAt (w.alloc (Msg (.slice (some ⟨g, 0, none⟩) n cap))) w.heap.size g n cap qs :=
  ⟨(cell_at 9 (heap_alloc_new w _)).trans rfl, h.kept (Nat.le_refl _) ((Below.refl _ _).alloc (Nat.le_refl _) _)⟩

/-- WHAT THE LAW'S CALLS OF toParts ARE HANDED -/
structure Cut (a : Option Addr) (n cap i : Nat) (a' : Option Addr) (ps : Nat → LP) (w : World) : Prop where
  hi : i ≤ n
  hn : n ≤ 65536
  pre : PartsAt w a i ps
  post : PartsAt w a' (n - i) (fun j => ps (i + j))
  s1 : ∀ w : World, (Instr.slice 22 (.slice a n cap) none (some (.int .i64 (i : Int))) none).run Try.prog w = .ok (.slice a i cap) w
  s2 : ∀ w : World, (Instr.slice 22 (.slice a n cap) (some (.int .i64 (i : Int))) none none).run Try.prog w = .ok (.slice a' (n - i) (cap - i)) w

set_option maxHeartbeats 2000000 in
set_option maxRecDepth 100000 in
theorem main_any (a : Option Addr) (n cap i : Nat) (t : ByteArray) (a' : Option Addr) (ps : Nat → LP) (w : World) (hw : PartsAt w a n ps) (hc : Cut a n cap i a' ps w) (ht : t.size ≤ 1048576) :
    Calls Try.prog 4 #[.slice a n cap, .int .i64 (i : Int), .string t] w fun e w' => e = .returned (.bool true) ∧ Below w.heap.size w w' := by
  obtain ⟨i0, hi0, hz0, hz1, hz2⟩ := info_parts Try.info33
  have HC : Hid (Cut a n cap i a' ps w) := hc
  have HW : Hid (PartsAt w a n ps) := hw
  have s1 := hc.s1
  have s2 := hc.s2
  have hin := hc.hi
  have hn := hc.hn
  clear hc hw
  have n1 : decide ((65536 : Int) < (n : Int)) = false := by simp; omega
  have n2 : decide ((1048576 : Int) < (t.size : Int)) = false := by simp; omega
  have n3 : decide ((i : Int) < 0) = false := by simp
  have n4 : decide ((n : Int) < (i : Int)) = false := by simp; omega
  go_enter Try.func4, Try.ntmps4
  go_wp2_with fail
  refine (zzbytes_any a n cap (by omega) (i : Int) t (by omega) ps _ HW.out).mono ?_
  rintro e w' ⟨⟨r, rfl⟩, rfl⟩
  cases r
  · go_wp2
    go_ret
    exact ⟨rfl, Below.refl _ _⟩
  go_wp2_with fail
  refine (addlen_ex _ _ (by omega) (by omega) (by omega) _).mono ?_
  rintro e w' ⟨r1, rfl, ra1, rb1, RC1, rfl⟩
  go_wp2_with fail
  refine (partsbytes_any _ (by omega) (by omega) a n cap hn ps _ HW.out).mono ?_
  rintro e w' ⟨r2, rfl, RC2, rfl⟩
  by_cases hov : 1048576 < r2
  · go_wp2
    go_ret
    exact ⟨rfl, Below.refl _ _⟩
  have HT : Hid ((t.size : Int) + txSum ps n ≤ 1048576) := by
    show (_ : Int) ≤ _
    have e1 := (RC2 (by omega)).1
    have e2 := RC1.out (by omega)
    omega
  have HF : Hid (Fit ps n) := (RC2 (by omega)).2
  have HF1 : Hid (Fit ps i) := fun j hj => HF.out j (by omega)
  have HF2 : Hid (Fit (fun j => ps (i + j)) (n - i)) := fun j hj => HF.out (i + j) (by omega)
  clear RC1 RC2 HF
  go_wp2_with fail
  refine (toparts_any a i cap (by omega) ps HF1.out _ HC.out.pre).mono ?_
  rintro e w1 ⟨rfl, q1, hq1, hown1, hb1⟩
  have HQ1 : Hid (q1.map PV.tt = heads ps i) := hq1
  have HO1 : Hid (w1.ownsRow w.heap.size 33 15 (.slice (some ⟨w.heap.size, 0, none⟩) i i) i (flat q1)) := hown1
  clear hq1 hown1 n1 n2 n3 n4
  go_wp2_with (at_builtin; refine wpList_append_own _ rfl _ _ 26 rfl w.heap.size 33 i0 _ 15 224 Try.underlying26 hi0 hz0 hz1 hz2 rfl (by decide) _ _ _ rfl (HO1.out.alloc _) ⟨w1.heap.size, 0, none⟩ 1 1 (ptxt t).cells rfl rfl ?c1 (PV.cells_one _) ?c3 ?c4 ?c5 ?_)
  case c1 =>
    intro j u hj
    have e := heap_alloc_new w1 (.cells (PartCells ⟨#[116, 101, 120, 116]⟩ t ⟨#[]⟩ ⟨#[]⟩ ⟨#[]⟩ ⟨#[]⟩ none 0 0 none 0 0 none) 33)
    have e2 : (⟨w1.heap.size, 0, none⟩ : Addr).add j = ⟨w1.heap.size, j, none⟩ := by unfold Addr.add; split <;> simp_all
    rw [e2]
    exact (cell_at j e).trans (by simpa [PV.cells, ptxt] using hj)
  case c3 => unfold maxLen; omega
  case c4 => omega
  case c5 => have := hb1.size; simp; omega
  intro v2 w2 hown2 hgrow2 hnn2
  have hb2 : Below w.heap.size w w2 := (keep_alloc hb1 _).grown hgrow2 (by have := hb1.size; simp; omega) (fun k hk => by simp [Value.ownBlock] at hk; omega)
  have hown2' : w2.ownsRow w.heap.size 33 15 v2 (i + 1) (flat (q1 ++ [ptxt t])) := by rw [flat_snoc]; exact hown2
  obtain ⟨g2, cap2, hv2⟩ := own_form (by omega) hown2'
  rw [hv2] at hown2' ⊢
  have HO2 : Hid (w2.ownsRow w.heap.size 33 15 (.slice (some ⟨g2, 0, none⟩) (i + 1) cap2) (i + 1) (flat (q1 ++ [ptxt t]))) := hown2'
  clear hown2 hown2' hgrow2 hnn2 hv2 v2 HO1 hb1
  go_wp2_with fail
  refine (toparts_any a' (n - i) (cap - i) (by omega) (fun j => ps (i + j)) HF2.out _ (HC.out.post.kept hb2)).mono ?_
  rintro e w3 ⟨rfl, q2, hq2, hown3, hb3⟩
  have HQ2 : Hid (q2.map PV.tt = heads (fun j => ps (i + j)) (n - i)) := hq2
  have hr3 := row33_of hown3
  have HO3 := own_keep HO2.out hb3
  go_wp2_with (at_builtin; refine wpList_append_own _ rfl _ _ 26 rfl w.heap.size 33 i0 _ 15 224 Try.underlying26 hi0 hz0 hz1 hz2 rfl (by decide) _ _ _ rfl HO3 ⟨w2.heap.size, 0, none⟩ (n - i) (n - i) (flat q2) rfl ?c0 ?c1 ?c2 ?c3 ?c4 ?c5 ?_)
  case c0 => rw [flat_length, hr3.len]
  case c1 =>
    intro j u hj
    exact own_cell hown3 j u hj
  case c2 => exact flat_one q2
  case c3 => unfold maxLen; omega
  case c4 => omega
  case c5 => have := hb2.size; have := hb3.size; omega
  intro v4 w4 hown4 hgrow4 hnn4
  have hb4 : Below w.heap.size w w4 := (keep_call hb2 hb3).grown hgrow4 (by have := hb2.size; have := hb3.size; omega) (fun k hk => (HO3.lt k hk).1)
  have hown4' : w4.ownsRow w.heap.size 33 15 v4 (i + 1 + (n - i)) (flat (q1 ++ [ptxt t] ++ q2)) := by rw [flat_append (q1 ++ [ptxt t])]; exact hown4
  obtain ⟨g4, cap4, hv4⟩ := own_form (by omega) hown4'
  rw [hv4] at hown4' ⊢
  have hr4 := row33_of hown4'
  clear hown4 hown4' hgrow4 hnn4 hv4 v4 HO2 HO3 hown3 hr3 hb3 hb2 hq2
  have M1 := msg_made (cap := cap4) hr4
  have hb5 := keep_alloc hb4 (Msg (.slice (some ⟨g4, 0, none⟩) (i + 1 + (n - i)) cap4))
  clear hr4
  go_wp2_with fail
  change Calls _ _ _ (w4.alloc (Msg (.slice (some ⟨g4, 0, none⟩) (i + 1 + (n - i)) cap4))) _
  generalize w4.alloc (Msg (.slice (some ⟨g4, 0, none⟩) (i + 1 + (n - i)) cap4)) = w5 at *
  generalize w4.heap.size = m1 at *
  refine (toparts_any a i cap (by omega) ps HF1.out _ (HC.out.pre.kept hb5)).mono ?_
  rintro e w6 ⟨rfl, q3, hq3, hown6, hb6⟩
  have HQ3 : Hid (q3.map PV.tt = heads ps i) := hq3
  have M2 := msg_made (cap := i) (row33_of hown6)
  have M1' := (M1.kept hb6).kept ((Below.refl _ _).alloc (Nat.le_refl _) (Msg (.slice (some ⟨w5.heap.size, 0, none⟩) i i)))
  have hb7 := keep_alloc (keep_call hb5 hb6) (Msg (.slice (some ⟨w5.heap.size, 0, none⟩) i i))
  clear hq3 hown6 M1
  go_wp2_with fail
  change Calls _ _ _ (w6.alloc (Msg (.slice (some ⟨w5.heap.size, 0, none⟩) i i))) _
  generalize w6.alloc (Msg (.slice (some ⟨w5.heap.size, 0, none⟩) i i)) = w7 at *
  generalize w6.heap.size = m2 at *
  generalize w5.heap.size = g5 at *
  refine (toparts_any a' (n - i) (cap - i) (by omega) (fun j => ps (i + j)) HF2.out _ (HC.out.post.kept hb7)).mono ?_
  rintro e w8 ⟨rfl, q4, hq4, hown8, hb8⟩
  have HQ4 : Hid (q4.map PV.tt = heads (fun j => ps (i + j)) (n - i)) := hq4
  have M3 := msg_made (cap := n - i) (row33_of hown8)
  have M1 := (M1'.kept hb8).kept ((Below.refl _ _).alloc (Nat.le_refl _) (Msg (.slice (some ⟨w7.heap.size, 0, none⟩) (n - i) (n - i))))
  have M2' := (M2.kept hb8).kept ((Below.refl _ _).alloc (Nat.le_refl _) (Msg (.slice (some ⟨w7.heap.size, 0, none⟩) (n - i) (n - i))))
  have hb9 := keep_alloc (keep_call hb7 hb8) (Msg (.slice (some ⟨w7.heap.size, 0, none⟩) (n - i) (n - i)))
  clear hq4 hown8 M1' M2
  go_wp2_with fail
  change Calls _ _ _ (w8.alloc (Msg (.slice (some ⟨w7.heap.size, 0, none⟩) (n - i) (n - i)))) _
  generalize w8.alloc (Msg (.slice (some ⟨w7.heap.size, 0, none⟩) (n - i) (n - i))) = w9 at *
  generalize w8.heap.size = m3 at *
  generalize w7.heap.size = g7 at *
  have L2 : Hid (txLen (q3.map PV.tt) ≤ 1048576) := by
    show _ ≤ _
    have e := HT.out
    have e1 := txSum_split ps i (n - i)
    rw [show i + (n - i) = n by omega] at e1
    rw [HQ3.out, txLen_heads]; omega
  have L3 : Hid (txLen (q4.map PV.tt) ≤ 1048576) := by
    show _ ≤ _
    have e := HT.out
    have e1 := txSum_split ps i (n - i)
    rw [show i + (n - i) = n by omega] at e1
    rw [HQ4.out, txLen_heads]; omega
  have L1 : Hid (txLen ((q1 ++ [ptxt t] ++ q2).map PV.tt) ≤ 1048576) := by
    show _ ≤ _
    have e := HT.out
    have e1 := txSum_split ps i (n - i)
    rw [show i + (n - i) = n by omega] at e1
    rw [List.map_append, List.map_append, txLen_append, txLen_append, HQ1.out, HQ2.out, txLen_heads, txLen_heads]
    have e2 : txLen ([ptxt t].map PV.tt) = t.size := by simp [txLen, PV.tt, ptxt]
    omega
  have E : Hid (textL ((q1 ++ [ptxt t] ++ q2).map PV.tt) = textL (q3.map PV.tt) ++ t.data.toList ++ textL (q4.map PV.tt)) := by
    show _ = _
    rw [List.map_append, List.map_append, textL_append, textL_append, HQ1.out, HQ2.out, HQ3.out, HQ4.out]
    have e2 : textL ([ptxt t].map PV.tt) = t.data.toList := by
      have e3 := textL_snoc [] (ptxt t).tt
      rw [sel_ptxt] at e3
      simpa [textL] using e3
    rw [e2]
  have K2 := textL_le (q3.map PV.tt)
  have K3 := textL_le (q4.map PV.tt)
  have l2 : (textL (q3.map PV.tt)).length ≤ 1048576 := Nat.le_trans K2 L2.out
  have l3 : (textL (q4.map PV.tt)).length ≤ 1048576 := Nat.le_trans K3 L3.out
  have T1 : Hid (∀ w, MsgAt w m1 g4 (i + 1 + (n - i)) cap4 (q1 ++ [ptxt t] ++ q2) → Calls Try.prog 13 #[.pointer (some ⟨m1, 0, none⟩)] w fun e w' => e = .returned (.string ⟨(textL ((q1 ++ [ptxt t] ++ q2).map PV.tt)).toArray⟩) ∧ Below w.heap.size w w') := fun w h => text_any m1 g4 _ cap4 (by omega) _ w h.cell h.row (Nat.le_trans L1.out (by decide))
  have T2 : Hid (∀ w, MsgAt w m2 g5 i i q3 → Calls Try.prog 13 #[.pointer (some ⟨m2, 0, none⟩)] w fun e w' => e = .returned (.string ⟨(textL (q3.map PV.tt)).toArray⟩) ∧ Below w.heap.size w w') := fun w h => text_any m2 g5 _ _ (by omega) _ w h.cell h.row (Nat.le_trans L2.out (by decide))
  have T3 : Hid (∀ w, MsgAt w m3 g7 (n - i) (n - i) q4 → Calls Try.prog 13 #[.pointer (some ⟨m3, 0, none⟩)] w fun e w' => e = .returned (.string ⟨(textL (q4.map PV.tt)).toArray⟩) ∧ Below w.heap.size w w') := fun w h => text_any m3 g7 _ _ (by omega) _ w h.cell h.row (Nat.le_trans L3.out (by decide))
  clear K2 K3 L1 L2 L3 HQ1 HQ2 HQ3 HQ4 s1 s2 HC HW HT
  generalize textL ((q1 ++ [ptxt t] ++ q2).map PV.tt) = z1 at *
  generalize textL (q3.map PV.tt) = z2 at *
  generalize textL (q4.map PV.tt) = z3 at *
  refine (T1.out _ M1).mono ?_
  rintro e w10 ⟨rfl, hb10⟩
  have M2 := M2'.kept hb10
  have M3' := M3.kept hb10
  clear M2' M3 M1
  go_wp2_with fail
  refine (T2.out _ M2).mono ?_
  rintro e w11 ⟨rfl, hb11⟩
  have M3 := M3'.kept hb11
  clear M3' M2
  go_wp2_with fail
  refine (T3.out _ M3).mono ?_
  rintro e w12 ⟨rfl, hb12⟩
  clear M3
  go_wp2
  go_ret
  exact ⟨ret_bool (fin_eq E.out), keep_call (keep_call (keep_call hb9 hb10) hb11) hb12⟩
end Go.Proofs.Qxb6616796a
