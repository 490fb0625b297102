/-
  textOf and (*UIMessage).Text: the walks.
-/
import Derived.Test.Qxb6616796aTextP
import Derived.Test.Qxb6616796aBuild
namespace Go.Proofs.Qxb6616796a
open Go.RowKit

theorem ret_str {a b : List UInt8} (h : a = b) : Ending.returned (.string ⟨a.toArray⟩) = .returned (.string ⟨b.toArray⟩) := by rw [h]

set_option maxHeartbeats 2000000 in
set_option maxRecDepth 100000 in
theorem textof_any (g n cap : Nat) (hn : n ≤ 1000000) (qs : List PV) (w : World) (hr : Row33 w g n qs) (hlen : txLen (qs.map PV.tt) ≤ 140737488355328) :
    Calls Try.prog 19 #[.slice (some ⟨g, 0, none⟩) n cap] w fun e w' => e = .returned (.string ⟨(textL (qs.map PV.tt)).toArray⟩) ∧ Below w.heap.size w w' := by
  have HR : Hid (Row33 w g n qs) := hr
  have HL : Hid (txLen (qs.map PV.tt) ≤ 140737488355328) := hlen
  clear hr hlen
  go_enter Try.func19, Try.ntmps19
  go_wp2
  go_loopw [8] (fun t wr => ∃ k : Nat, k ≤ n ∧ t = .int .i64 (k : Int) ∧ Lib.IsBuilder 69 5 w.heap.size w.heap.size (Lib.byteCells (textL ((qs.map PV.tt).take k))) wr ∧ Below w.heap.size w wr) (fun t _ => n - (intOf t).toNat)
  case atStart => exact ⟨0, by omega, rfl, Lib.fresh_isBuilder 69 5 w, (Below.refl _ _).alloc (Nat.le_refl _) _⟩
  case round =>
    obtain ⟨k, hk, rfl, hbu, hbel⟩ := hrel
    have HB : Hid (Lib.IsBuilder 69 5 w.heap.size w.heap.size (Lib.byteCells (textL ((qs.map PV.tt).take k))) wr) := hbu
    clear hbu
    by_cases hlt : k < n
    · have i1 : (k : Int) < (n : Int) := by omega
      have hkl : k < qs.length := by rw [HR.out.len]; exact hlt
      obtain ⟨q, hq⟩ : ∃ q, qs[k]? = some q := ⟨qs[k], by simp [hkl]⟩
      have hc := fun i hi => ((HR.out.kept (Nat.le_refl _) hbel).cell k q hq i hi)
      have m0 : wr.cell? ⟨g, k * 15, none⟩ = some (.string q.ty) := hc 0 (by omega)
      have m1 : wr.cell? ⟨g, k * 15 + 1, none⟩ = some (.string q.tx) := hc 1 (by omega)
      have m2 : wr.cell? ⟨g, k * 15 + 2, none⟩ = some (.string q.st) := hc 2 (by omega)
      have m3 : wr.cell? ⟨g, k * 15 + 3, none⟩ = some (.string q.tn) := hc 3 (by omega)
      have m4 : wr.cell? ⟨g, k * 15 + 4, none⟩ = some (.string q.tc) := hc 4 (by omega)
      have m5 : wr.cell? ⟨g, k * 15 + 5, none⟩ = some (.slice q.a1 q.n1 q.c1) := hc 5 (by omega)
      have m6 : wr.cell? ⟨g, k * 15 + 6, none⟩ = some (.slice q.a2 q.n2 q.c2) := hc 6 (by omega)
      have m7 : wr.cell? ⟨g, k * 15 + 7, none⟩ = some (.string q.er) := hc 7 (by omega)
      have m8 : wr.cell? ⟨g, k * 15 + 8, none⟩ = some (.pointer q.q) := hc 8 (by omega)
      have m9 : wr.cell? ⟨g, k * 15 + 9, none⟩ = some (.int .i64 0) := hc 9 (by omega)
      have m10 : wr.cell? ⟨g, k * 15 + 10, none⟩ = some (.string ⟨#[]⟩) := hc 10 (by omega)
      have m11 : wr.cell? ⟨g, k * 15 + 11, none⟩ = some (.slice none 0 0) := hc 11 (by omega)
      have m12 : wr.cell? ⟨g, k * 15 + 12, none⟩ = some (.bool false) := hc 12 (by omega)
      have m13 : wr.cell? ⟨g, k * 15 + 13, none⟩ = some (.pointer none) := hc 13 (by omega)
      have m14 : wr.cell? ⟨g, k * 15 + 14, none⟩ = some (.pointer none) := hc 14 (by omega)
      have HQ : Hid ((qs.map PV.tt).take (k + 1) = (qs.map PV.tt).take k ++ [q.tt]) := by
        show _ = _
        rw [List.take_add_one, List.getElem?_map, hq]; rfl
      have hlen : (Lib.byteCells (textL ((qs.map PV.tt).take k))).length + q.tx.size ≤ 140737488355328 := by
        have e1 := textL_le ((qs.map PV.tt).take k)
        have e2 := txLen_take_le (qs.map PV.tt) (k + 1)
        rw [HQ.out, txLen_snoc] at e2
        have e3 := HL.out
        rw [Lib.byteCells_length]
        show _ + (q.tt).2.size ≤ _
        omega
      have HLn : Hid ((Lib.byteCells (textL ((qs.map PV.tt).take k))).length + q.tx.size ≤ 140737488355328) := hlen
      clear hlen hc hq
      have hsz : w.heap.size ≤ wr.heap.size := hbel.size
      by_cases hty : (q.ty.toList == [116, 101, 120, 116]) = true
      · have HS : Hid (textL ((qs.map PV.tt).take (k + 1)) = textL ((qs.map PV.tt).take k) ++ q.tx.data.toList) := by
          show _ = _
          rw [HQ.out, textL_snoc]; unfold sel; rw [if_pos (by exact hty)]; rfl
        go_wp2_with fail
        refine (write_any w.heap.size w.heap.size _ q.tx _ (isBuilder_alloc HB.out _) HLn.out (by simp; omega)).mono ?_
        rintro e w2 ⟨rfl, hbu2, hb2⟩
        have hbel2 : Below w.heap.size w w2 := (hbel.alloc hsz _).trans hb2
        have HB2 : Hid (Lib.IsBuilder 69 5 w.heap.size w.heap.size (Lib.byteCells (textL ((qs.map PV.tt).take (k + 1)))) w2) := by
          show Lib.IsBuilder _ _ _ _ _ _
          rw [HS.out, Lib.byteCells_append, ← Lib.strCells_eq]
          exact .inr hbu2
        clear hbu2 HB m0 m1 m2 m3 m4 m5 m6 m7 m8 m9 m10 m11 m12 m13 m14
        go_wp2
        go_roundw
        case rel => exact ⟨k + 1, by omega, by go_num, HB2.out, hbel2⟩
        case measure => simp [intOf]; omega
      · have HS : Hid (textL ((qs.map PV.tt).take (k + 1)) = textL ((qs.map PV.tt).take k)) := by
          show _ = _
          rw [HQ.out, textL_snoc]; unfold sel; rw [if_neg (by exact hty)]; simp
        have hty2 : (q.ty.toList == [116, 101, 120, 116]) = false := by simpa using hty
        clear hty
        go_wp2_with fail
        go_roundw
        case rel => exact ⟨k + 1, by omega, by go_num, by rw [HS.out]; exact isBuilder_alloc HB.out _, hbel.alloc hsz _⟩
        case measure => simp [intOf]; omega
    · have i1 : ¬ (k : Int) < (n : Int) := by omega
      have HT : Hid ((qs.map PV.tt).take k = qs.map PV.tt) := List.take_of_length_le (by rw [List.length_map, HR.out.len]; omega)
      go_wp2_with fail
      refine (Try.Builder_String_any w.heap.size w.heap.size _ _ HB.out hbel.size).mono ?_
      rintro e w2 ⟨rfl, hb2⟩
      go_wp2
      go_ret
      exact ⟨ret_str (by rw [HT.out]), hbel.trans hb2⟩

set_option maxHeartbeats 400000 in
set_option maxRecDepth 100000 in
theorem text_any (m g n cap : Nat) (hn : n ≤ 1000000) (qs : List PV) (w : World) (hm : w.cell? ⟨m, 9, none⟩ = some (.slice (some ⟨g, 0, none⟩) n cap)) (hr : Row33 w g n qs) (hlen : txLen (qs.map PV.tt) ≤ 140737488355328) :
    Calls Try.prog 13 #[.pointer (some ⟨m, 0, none⟩)] w fun e w' => e = .returned (.string ⟨(textL (qs.map PV.tt)).toArray⟩) ∧ Below w.heap.size w w' := by
  have HC : Hid (∀ w : World, Row33 w g n qs → Calls Try.prog 19 #[.slice (some ⟨g, 0, none⟩) n cap] w fun e w' => e = .returned (.string ⟨(textL (qs.map PV.tt)).toArray⟩) ∧ Below w.heap.size w w') := fun w hr => textof_any g n cap hn qs w hr hlen
  have HR : Hid (Row33 w g n qs) := hr
  clear hr hlen
  go_enter Try.func13, Try.ntmps13
  go_wp2_with fail
  refine (HC.out _ HR.out).mono ?_
  rintro e w2 ⟨rfl, hb2⟩
  go_wp2
  go_ret
  exact ⟨rfl, hb2⟩
end Go.Proofs.Qxb6616796a
