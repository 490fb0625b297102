/-
  FnNewDuesMarksAreItsOwn: the walk.
-/
import Derived.Test.Qxb6616714aDues
import Derived.Deep.QuietTactic
import Derived.BigQuiet
import Derived.WalkSmall
import Derived.LaidEqlPtr
namespace Go.Proofs.Qxb6616714a
open Go.RowKit

/-- a request's block, as '&request{}' lays it -/
def ReqObj : Obj := .cells #[.nilIface, .bool false, .nilIface, .bool false, .bool false, .slice none 0 0, .chan none, .int .u32 0] 125

set_option maxHeartbeats 400000 in
set_option maxRecDepth 100000 in
theorem newreq_any (w : World) :
    Calls Try.prog 28 #[] w fun e w' => e = .returned (.pointer (some ⟨w.heap.size, 0, none⟩)) ∧ w' = w.alloc ReqObj := by
  go_enter Try.func28, Try.ntmps28
  go_wp2
  go_ret
  exact ⟨rfl, rfl⟩

theorem Try.info56 : (Try.prog.info? 56).map (fun i => (i.zero, i.size, i.bytes)) = some (some (.pointer none), 1, 8) := by kernel_rfl

theorem neq_same (a : Addr) (w : World) : (binOp .neq 56 (.pointer (some a)) (.pointer (some a))).run Try.prog w = .ok (.bool false) w := by
  obtain ⟨j, hj⟩ : ∃ j, Try.prog.info? 125 = some j := by
    have h : (Try.prog.info? 125).isSome = true := by kernel_rfl
    exact Option.isSome_iff_exists.1 h
  have h : ∀ d : Nat, (Op.equalIn (d + 1) 56 (.pointer (some a)) (.pointer (some a))).run Try.prog w = .ok true w := fun d => by
    simp [Op.equalIn, run_underlying Try.underlying56, sizeOf, typeInfo, hj, run_sameAddr_same]
  simp only [binOp]
  simp [Op.equal, Op.maxDepth, h 9999]

/-- pointers, as cells -/
def ptrs (l : List Nat) : List Value := l.map fun b => .pointer (some ⟨b, 0, none⟩)

theorem row_ptrs {w : World} {B n : Nat} {v : Value} {l : List Nat} (hpos : 0 < n) (hl : l.length = n) (h : w.ownsRow B 56 1 v n (ptrs l)) :
    ∃ g cap, v = .slice (some ⟨g, 0, none⟩) n cap ∧ g < w.heap.size ∧ n ≤ cap ∧ ∀ j, j < n → w.cell? ⟨g, j, none⟩ = some (.pointer (some ⟨l.getD j 0, 0, none⟩)) := by
  rcases h.2 with ⟨_, h0⟩ | ⟨g, cap, cur, hv, hg, hh, hle, hm, hs, ht⟩
  · omega
  · refine ⟨g, cap, hv, (Array.getElem?_eq_some_iff.1 hh).1, hle, fun j hj => ?_⟩
    have e1 : (cur.toList.take (n * 1))[j]? = (ptrs l)[j]? := by rw [ht]
    rw [List.getElem?_take, if_pos (by omega)] at e1
    have e2 : cur[j]? = (ptrs l)[j]? := by simpa using e1
    rw [cell_at j hh, e2]
    simp [ptrs, show j < l.length by omega]

set_option maxHeartbeats 400000 in
set_option maxRecDepth 100000 in
theorem answered_any (D F n : Nat) (w : World) (h : w.cell? ⟨D, 1, none⟩ = some (.slice (some ⟨F, 0, none⟩) n n)) :
    Calls Try.prog 30 #[.pointer (some ⟨D, 0, none⟩)] w fun e w' => e = .returned (.slice (some ⟨F, 0, none⟩) n n) ∧ w = w' := by
  go_enter Try.func30, Try.ntmps30
  go_wp2
  go_ret
  exact ⟨rfl, rfl⟩

set_option maxHeartbeats 400000 in
set_option maxRecDepth 100000 in
theorem batch_any (D : Nat) (ao : Option Addr) (n cap : Nat) (w : World) (h : w.cell? ⟨D, 0, none⟩ = some (.slice ao n cap)) :
    Calls Try.prog 31 #[.pointer (some ⟨D, 0, none⟩)] w fun e w' => e = .returned (.slice ao n cap) ∧ w = w' := by
  go_enter Try.func31, Try.ntmps31
  go_wp2
  go_ret
  exact ⟨rfl, rfl⟩

/-- What is known of the world behind the mark. -/
structure Marked (ao : Option Addr) (n cap k D1 F1 D2 F2 : Nat) (w : World) : Prop where
  b1 : w.cell? ⟨D1, 0, none⟩ = some (.slice ao n cap)
  m1 : w.cell? ⟨D1, 1, none⟩ = some (.slice (some ⟨F1, 0, none⟩) n n)
  b2 : w.cell? ⟨D2, 0, none⟩ = some (.slice ao n cap)
  m2 : w.cell? ⟨D2, 1, none⟩ = some (.slice (some ⟨F2, 0, none⟩) n n)
  c1 : ∀ j, j < n → w.cell? ⟨F1, j, none⟩ = some (.bool ((j : Int) == (k : Int)))
  c2 : ∀ j, j < n → w.cell? ⟨F2, j, none⟩ = some (.bool false)

theorem cell_set_ne (w : World) (b o b' o' : Nat) (v : Value) (h : b ≠ b' ∨ o ≠ o') : (w.setCell ⟨b, o, none⟩ v).cell? ⟨b', o', none⟩ = w.cell? ⟨b', o', none⟩ :=
  World.cell?_setCell_other _ _ _ _ (by simp only [ne_eq, Addr.mk.injEq, and_true]; omega)
theorem cell_set_eq (w : World) (b o : Nat) (v u : Value) (h : w.cell? ⟨b, o, none⟩ = some u) : (w.setCell ⟨b, o, none⟩ v).cell? ⟨b, o, none⟩ = some v :=
  World.cell?_setCell_same _ _ _ h

theorem marked_no {ao : Option Addr} {n cap k D1 F1 D2 F2 : Nat} {w w2 w3 : World} (h1 : Made ao n cap D1 F1 w w2) (h2 : Made ao n cap D2 F2 w2 w3) (hk : n ≤ k) : Marked ao n cap k D1 F1 D2 F2 w3 := by
  have a1 := h1.hi
  have a2 := h1.lt
  refine ⟨?_, ?_, h2.batch, h2.marks, fun j hj => ?_, h2.no⟩
  · rw [h2.below.cell (p := ⟨D1, 0, none⟩) a1]; exact h1.batch
  · rw [h2.below.cell (p := ⟨D1, 1, none⟩) a1]; exact h1.marks
  · rw [h2.below.cell (p := ⟨F1, j, none⟩) (by show F1 < _; omega), h1.no j hj]
    have : ((j : Int) == (k : Int)) = false := by simp; omega
    rw [this]

theorem marked_yes {ao : Option Addr} {n cap k D1 F1 D2 F2 : Nat} {w w2 w3 : World} (h1 : Made ao n cap D1 F1 w w2) (h2 : Made ao n cap D2 F2 w2 w3) (hk : k < n) : Marked ao n cap k D1 F1 D2 F2 (w3.setCell ⟨F1, k, none⟩ (.bool true)) := by
  have a1 := h1.hi
  have a2 := h1.lt
  have a3 := h2.lo
  have a4 := h2.lt
  have c1 : ∀ j, j < n → w3.cell? ⟨F1, j, none⟩ = some (.bool false) := fun j hj => by
    rw [h2.below.cell (p := ⟨F1, j, none⟩) (by show F1 < _; omega)]; exact h1.no j hj
  refine ⟨?_, ?_, ?_, ?_, fun j hj => ?_, fun j hj => ?_⟩
  · rw [cell_set_ne _ _ _ _ _ _ (by omega), h2.below.cell (p := ⟨D1, 0, none⟩) a1]; exact h1.batch
  · rw [cell_set_ne _ _ _ _ _ _ (by omega), h2.below.cell (p := ⟨D1, 1, none⟩) a1]; exact h1.marks
  · rw [cell_set_ne _ _ _ _ _ _ (by omega)]; exact h2.batch
  · rw [cell_set_ne _ _ _ _ _ _ (by omega)]; exact h2.marks
  · by_cases hjk : j = k
    · subst hjk
      rw [cell_set_eq _ _ _ _ _ (c1 j hj)]
      simp
    · have : ((j : Int) == (k : Int)) = false := by simp; omega
      rw [cell_set_ne _ _ _ _ _ _ (by omega), c1 j hj, this]
  · rw [cell_set_ne _ _ _ _ _ _ (by omega)]; exact h2.no j hj

set_option maxHeartbeats 1000000 in
set_option maxRecDepth 100000 in
theorem marks_any (n k : Nat) (hn : n ≤ 65536) (hk : k ≤ n) (w : World) :
    Calls Try.prog 8 #[.int .i64 (n : Int), .int .i64 (k : Int)] w fun e w' => e = .returned (.bool true) ∧ Below w.heap.size w w' := by
  obtain ⟨i0, hi, hz0, hz1, hz2⟩ := info_parts Try.info56
  have d1 : decide ((n : Int) < 0) = false := by simp
  have d2 : decide ((65536 : Int) < (n : Int)) = false := by simp; omega
  have d3 : decide ((k : Int) < 0) = false := by simp
  have d4 : decide ((n : Int) < (k : Int)) = false := by simp; omega
  have d5 : decide (n < k) = false := by simp; omega
  go_enter Try.func8, Try.ntmps8
  go_wp2
  go_loopw [5, 6] (fun v t wr => ∃ (i : Nat) (l : List Nat), i ≤ n ∧ t = .int .i64 (i : Int) ∧ l.length = i ∧ wr.ownsRow w.heap.size 56 1 v i (ptrs l) ∧ (i = 0 → v = .slice none 0 0) ∧ Below w.heap.size w wr) (fun _ t _ => n - (intOf t).toNat)
  case atStart => exact ⟨0, [], by omega, rfl, rfl, World.ownsRow_nil _ _ _ _, fun _ => rfl, Below.refl _ _⟩
  case round =>
    obtain ⟨i, l, hin, rfl, hll, hown, hnil, hnx⟩ := hrel
    have HN : Hid (i = 0 → u5 = .slice none 0 0) := hnil
    have HL : Hid (l.length = i) := hll
    clear hnil hll
    by_cases hlt : i < n
    · go_wp2_with fail
      refine (newreq_any _).mono ?_
      rintro e w1 ⟨rfl, rfl⟩
      go_wp2_with (at_builtin; refine wpList_append_own _ rfl _ _ 54 rfl w.heap.size 56 i0 (.pointer none) 1 8 Try.underlying54 hi hz0 hz1 hz2 rfl (by decide) _ _ _ rfl ((hown.alloc _).alloc _) ⟨wr.heap.size + 1, 0, none⟩ 1 1 [.pointer (some ⟨wr.heap.size, 0, none⟩)] rfl rfl ?c1 ?c2 ?c3 ?c4 ?c5 ?_)
      case c1 =>
        intro j u hj
        match j, hj with
        | 0, hj => simp at hj; subst hj; simp [Addr.add]
      case c2 => intro u hu; simp at hu; subst hu; rfl
      case c3 => unfold maxLen; omega
      case c4 => omega
      case c5 => have := hnx.size; simp; omega
      intro v' w1 hown' hgrow hnn
      have hnx1 : Below w.heap.size w w1 := ((hnx.alloc hnx.size _).alloc (by have := hnx.size; simp; omega) _).grown hgrow (by have := hnx.size; simp; omega) (fun k hk => (hown.lt k hk).1)
      have HO : Hid (w1.ownsRow w.heap.size 56 1 v' (i + 1) (ptrs (l ++ [wr.heap.size]))) := by
        have e : ptrs (l ++ [wr.heap.size]) = ptrs l ++ [.pointer (some ⟨wr.heap.size, 0, none⟩)] := by simp [ptrs]
        show World.ownsRow _ _ _ _ _ _ _
        rw [e]; exact hown'
      clear hown' hgrow hnn hown hnx HN
      go_wp2
      go_roundw
      case rel => exact ⟨_, _, _, _, _, _, _, _, _, _, _, ⟨i + 1, l ++ [wr.heap.size], by omega, by go_num, by rw [List.length_append, HL.out]; rfl, HO.out, fun h => by omega, hnx1⟩, rfl⟩
      case measure => simp [intOf]; omega
    · have hni : n = i := by omega
      subst hni
      by_cases hn0 : n = 0
      · have hu := HN.out hn0
        have hk0 : k = 0 := by omega
        subst hn0 hk0
        rw [hu]
        clear hu HN hown hi hz0 hz1 hz2 d1 d2 d3 d4 d5 HL
        go_wp2_with fail
        refine (dues_made none 0 0 (by omega) _).mono ?_
        rintro e w2 ⟨D1, F1, rfl, M1⟩
        go_wp2_with fail
        refine (dues_made none 0 0 (by omega) _).mono ?_
        rintro e w3 ⟨D2, F2, rfl, M2⟩
        have hB : Below w.heap.size w w3 := hnx.trans ((M1.below.mono hnx.size).trans (M2.below.mono (Nat.le_trans hnx.size M1.below.size)))
        have MK := marked_no (k := 0) M1 M2 (by omega)
        go_wp2_with fail
        refine (answered_any D1 F1 0 _ MK.m1).mono ?_
        rintro e w' ⟨rfl, rfl⟩
        go_wp2_with fail
        refine (answered_any D1 F1 0 _ MK.m1).mono ?_
        rintro e w' ⟨rfl, rfl⟩
        go_wp2_with fail
        refine (answered_any D2 F2 0 _ MK.m2).mono ?_
        rintro e w' ⟨rfl, rfl⟩
        go_wp2_with fail
        refine wp_loop_rounds 1 ?_
        rw [rounds_succ]
        go_wp2_with fail
        refine (batch_any D1 none 0 0 _ MK.b1).mono ?_
        rintro e w' ⟨rfl, rfl⟩
        go_wp2_with fail
        refine (batch_any D2 none 0 0 _ MK.b2).mono ?_
        rintro e w' ⟨rfl, rfl⟩
        go_wp2_with fail
        refine wp_loop_rounds 1 ?_
        rw [rounds_succ]
        go_wp2
        go_ret
        exact ⟨rfl, hB⟩
      · obtain ⟨g, cap, hu, hgs, hle, hcR⟩ := row_ptrs (by omega) HL.out hown
        rw [hu]
        clear hu HN hown hi hz0 hz1 hz2 d1 d2 d3 d4 d5
        have HR : Hid (∀ j, j < n → wr.cell? ⟨g, j, none⟩ = some (.pointer (some ⟨l.getD j 0, 0, none⟩))) := hcR
        clear hcR
        go_wp2_with fail
        refine (dues_made _ n cap hn _).mono ?_
        rintro e w2 ⟨D1, F1, rfl, M1⟩
        go_wp2_with fail
        refine (dues_made _ n cap hn _).mono ?_
        rintro e w3 ⟨D2, F2, rfl, M2⟩
        have hB : Below w.heap.size w w3 := hnx.trans ((M1.below.mono hnx.size).trans (M2.below.mono (Nat.le_trans hnx.size M1.below.size)))
        have hFw : w.heap.size ≤ F1 := Nat.le_trans hnx.size M1.lo
        have HR3 : Hid (∀ j, j < n → w3.cell? ⟨g, j, none⟩ = some (.pointer (some ⟨l.getD j 0, 0, none⟩))) := fun j hj => by
          rw [M2.below.cell (p := ⟨g, j, none⟩) (by have := M1.below.size; show g < _; omega), M1.below.cell (p := ⟨g, j, none⟩) hgs]; exact HR.out j hj
        have ns : ((n : Int) != (n : Int)) = false := by simp
        have q1 : w3.cell? ⟨D1, 1, none⟩ = some (.slice (some ⟨F1, 0, none⟩) n n) := by
          rw [M2.below.cell (p := ⟨D1, 1, none⟩) M1.hi]; exact M1.marks
        have q2 : k < n → w3.cell? ⟨F1, k, none⟩ = some (.bool false) := fun hkn => by
          rw [M2.below.cell (p := ⟨F1, k, none⟩) (Nat.lt_trans M1.lt M1.hi)]; exact M1.no k hkn
        have q3 : w3.frozen? ⟨F1, k, none⟩ = false := by
          rw [M2.below.frozen (p := ⟨F1, k, none⟩) (Nat.lt_trans M1.lt M1.hi)]; exact M1.free k
        have hFg : g ≠ F1 := by have := M1.lo; omega
        go_wp2_with fail
        refine (answered_any D1 F1 n _ q1).mono ?_
        rintro e w' ⟨rfl, rfl⟩
        clear HR
        by_cases hkn : k < n
        · have q4 := q2 hkn
          clear q2
          have MK := marked_yes M1 M2 hkn
          have hB4 : Below w.heap.size w (w3.setCell ⟨F1, k, none⟩ (.bool true)) := hB.setCell hFw _
          have HR4 : Hid (∀ j, j < n → (w3.setCell ⟨F1, k, none⟩ (.bool true)).cell? ⟨g, j, none⟩ = some (.pointer (some ⟨l.getD j 0, 0, none⟩))) := fun j hj => by
            rw [cell_set_ne _ _ _ _ _ _ (.inl (Ne.symm hFg))]; exact HR3.out j hj
          clear HR3 hB
          go_wp2_with fail
          clear q1 q3 q4 M1 M2
          generalize w3.setCell ⟨F1, k, none⟩ (.bool true) = w4 at *
          refine (answered_any D1 F1 n _ MK.m1).mono ?_
          rintro e w' ⟨rfl, rfl⟩
          go_wp2_with fail
          refine (answered_any D2 F2 n _ MK.m2).mono ?_
          rintro e w' ⟨rfl, rfl⟩
          go_wp2_with fail
          go_loop [12] (fun t => ∃ i : Nat, i ≤ n ∧ t = .int .i64 (i : Int)) (fun t => n - (intOf t).toNat)
          case atStart => exact ⟨0, by omega, rfl⟩
          case round =>
            obtain ⟨i, hi, rfl⟩ := hrel
            by_cases hlt : i < n
            · have c1 := MK.c1 i hlt
              have c2 := MK.c2 i hlt
              have i1 : (i : Int) < (n : Int) := by omega
              by_cases hik : i = k
              · have hb : ((i : Int) == (k : Int)) = true := by simp; omega
                rw [hb] at c1
                clear hik
                go_wp2
                go_round
                case rel => exact ⟨i + 1, by omega, by go_num⟩
                case measure => simp [intOf]; omega
              · have hb : ((i : Int) == (k : Int)) = false := by simp; omega
                rw [hb] at c1
                clear hik
                go_wp2
                go_round
                case rel => exact ⟨i + 1, by omega, by go_num⟩
                case measure => simp [intOf]; omega
            · have i1 : ¬ (i : Int) < (n : Int) := by omega
              go_wp2_with fail
              refine (batch_any D1 _ n cap _ MK.b1).mono ?_
              rintro e w' ⟨rfl, rfl⟩
              go_wp2_with fail
              refine (batch_any D2 _ n cap _ MK.b2).mono ?_
              rintro e w' ⟨rfl, rfl⟩
              go_wp2_with fail
              go_loopw [15] (fun t wr => ∃ i m : Nat, i ≤ n ∧ t = .int .i64 (i : Int) ∧ wr = w4.drewN m) (fun t _ => n - (intOf t).toNat)
              case atStart => exact ⟨0, 0, by omega, rfl, rfl⟩
              case round =>
                clear hlt i1 hi
                obtain ⟨q, m, hq, rfl, rfl⟩ := hrel
                by_cases hlt : q < n
                · have c1 := HR4.out q hlt
                  have i1 : (q : Int) < (n : Int) := by omega
                  have hnq := neq_same
                  go_wp2
                  go_quiet (fail)
                  go_wp2
                  go_roundw
                  case rel => exact ⟨q + 1, _, by omega, by go_num, rfl⟩
                  case measure => simp [intOf]; omega
                · have i1 : ¬ (q : Int) < (n : Int) := by omega
                  go_wp2
                  go_ret
                  exact ⟨rfl, below_drewN hB4 _⟩
        · have MK := marked_no (k := k) M1 M2 (by omega)
          clear q2
          go_wp2_with fail
          obtain ⟨w4, hw4⟩ : ∃ w4, w4 = w3 := ⟨_, rfl⟩
          clear q1 q3 M1 M2
          rw [← hw4] at hB HR3 MK ⊢
          clear hw4
          have hB4 : Below w.heap.size w w4 := hB
          have HR4 : Hid (∀ j, j < n → w4.cell? ⟨g, j, none⟩ = some (.pointer (some ⟨l.getD j 0, 0, none⟩))) := HR3.out
          refine (answered_any D1 F1 n _ MK.m1).mono ?_
          rintro e w' ⟨rfl, rfl⟩
          go_wp2_with fail
          refine (answered_any D2 F2 n _ MK.m2).mono ?_
          rintro e w' ⟨rfl, rfl⟩
          go_wp2_with fail
          go_loop [12] (fun t => ∃ i : Nat, i ≤ n ∧ t = .int .i64 (i : Int)) (fun t => n - (intOf t).toNat)
          case atStart => exact ⟨0, by omega, rfl⟩
          case round =>
            obtain ⟨i, hi, rfl⟩ := hrel
            by_cases hlt : i < n
            · have c1 := MK.c1 i hlt
              have c2 := MK.c2 i hlt
              have i1 : (i : Int) < (n : Int) := by omega
              by_cases hik : i = k
              · have hb : ((i : Int) == (k : Int)) = true := by simp; omega
                rw [hb] at c1
                clear hik
                go_wp2
                go_round
                case rel => exact ⟨i + 1, by omega, by go_num⟩
                case measure => simp [intOf]; omega
              · have hb : ((i : Int) == (k : Int)) = false := by simp; omega
                rw [hb] at c1
                clear hik
                go_wp2
                go_round
                case rel => exact ⟨i + 1, by omega, by go_num⟩
                case measure => simp [intOf]; omega
            · have i1 : ¬ (i : Int) < (n : Int) := by omega
              go_wp2_with fail
              refine (batch_any D1 _ n cap _ MK.b1).mono ?_
              rintro e w' ⟨rfl, rfl⟩
              go_wp2_with fail
              refine (batch_any D2 _ n cap _ MK.b2).mono ?_
              rintro e w' ⟨rfl, rfl⟩
              go_wp2_with fail
              go_loopw [15] (fun t wr => ∃ i m : Nat, i ≤ n ∧ t = .int .i64 (i : Int) ∧ wr = w4.drewN m) (fun t _ => n - (intOf t).toNat)
              case atStart => exact ⟨0, 0, by omega, rfl, rfl⟩
              case round =>
                clear hlt i1 hi
                obtain ⟨q, m, hq, rfl, rfl⟩ := hrel
                by_cases hlt : q < n
                · have c1 := HR4.out q hlt
                  have i1 : (q : Int) < (n : Int) := by omega
                  have hnq := neq_same
                  go_wp2
                  go_quiet (fail)
                  go_wp2
                  go_roundw
                  case rel => exact ⟨q + 1, _, by omega, by go_num, rfl⟩
                  case measure => simp [intOf]; omega
                · have i1 : ¬ (q : Int) < (n : Int) := by omega
                  go_wp2
                  go_ret
                  exact ⟨rfl, below_drewN hB4 _⟩

set_option maxHeartbeats 400000 in
set_option maxRecDepth 100000 in
theorem marks_all (n k : Int) (w : World) :
    Calls Try.prog 8 #[.int .i64 n, .int .i64 k] w fun e w' => e = .returned (.bool true) ∧ Below w.heap.size w w' := by
  by_cases h1 : n < 0
  · go_enter Try.func8, Try.ntmps8
    go_wp2
    go_ret
    exact ⟨rfl, Below.refl _ _⟩
  · by_cases h2 : 65536 < n
    · go_enter Try.func8, Try.ntmps8
      go_wp2
      go_ret
      exact ⟨rfl, Below.refl _ _⟩
    · by_cases h3 : k < 0
      · go_enter Try.func8, Try.ntmps8
        go_wp2
        go_ret
        exact ⟨rfl, Below.refl _ _⟩
      · by_cases h4 : n < k
        · go_enter Try.func8, Try.ntmps8
          go_wp2
          go_ret
          exact ⟨rfl, Below.refl _ _⟩
        · obtain ⟨a, rfl⟩ := Int.eq_ofNat_of_zero_le (show 0 ≤ n by omega)
          obtain ⟨b, rfl⟩ := Int.eq_ofNat_of_zero_le (show 0 ≤ k by omega)
          exact marks_any a b (by omega) (by omega) w
end Go.Proofs.Qxb6616714a
