/-
  (*bufio.Reader).Read over what is still to be read.
-/
import Derived.Test.Qxb6616818aFmtRdFill
namespace Go.Proofs.Qxb6616818aFmt
open Go.RowKit

/-- nothing is left: 0 and io.EOF -/
theorem rd_end (R Q B G b o m cap : Nat) (tE : TypeId) (aE : Addr) (hm : 0 < m) (hm2 : m ≤ 1000000000) (w : World) (ha : Apart R Q B G) (hB1 : B ≠ 1) (hR1 : R ≠ 1)
    (hE : w.cell? ⟨1, 0, none⟩ = some (.iface tE (.pointer (some aE)))) (h : Rdr w R Q B G []) :
    Calls Tryf.prog 84 #[.pointer (some ⟨R, 0, none⟩), .slice (some ⟨b, o, none⟩) m cap] w fun e w' => e = .returned (.tuple #[.int .i64 0, .iface tE (.pointer (some aE))]) ∧
      Rdr w' R Q B G [] ∧ Keep (fun k => k = R ∨ k = B) w w' := by
  obtain ⟨r, v, lb, lr, cur, buf, rest, h1, h2, h3, h4, h5, h6, h7, h8⟩ := h
  obtain ⟨hRQ, hRB, hQB, hRG, hQG⟩ := ha
  have hb0 : buf = [] := (List.append_eq_nil_iff.1 h8.symm).1
  have hr0 : rest = [] := (List.append_eq_nil_iff.1 h8.symm).2
  subst hb0 hr0
  obtain rfl : r = v := by
    have := congrArg List.length h6
    rw [bv_length, List.length_drop, List.length_take, List.length_nil] at this
    omega
  have hQ' : ∀ {w'}, Keep (fun k => k = R ∨ k = B) w w' → Row w' Q 5 cur := fun k => k.row h2 (fun x => by rcases x with x | x <;> omega)
  by_cases hbig : 4096 ≤ m
  · refine (rd_big_end R Q B G b o m cap r lb lr tE aE hbig hm2 w hRB hRG hB1 hE h1 h7).mono ?_
    rintro e w' ⟨rfl, g1, g2, g3⟩
    exact ⟨rfl, ⟨r, r, lb, lr, cur, [], [], g1, hQ' g3, h3, h4, h5, h6, g2, rfl⟩, g3⟩
  · refine (rd_small_end R Q B G b o m cap r lb lr tE aE hm (by omega) w hRB hRG hB1 hR1 hE h1 h7).mono ?_
    rintro e w' ⟨rfl, g1, g2, g3⟩
    exact ⟨rfl, ⟨0, 0, lb, lr, cur, [], [], g1, hQ' g3, h3, by omega, by omega, by simp [bv], g2, rfl⟩, g3⟩

/-- something is left: some of it goes over -/
theorem rd_some {tb : TypeId} (R Q B G b o m cap : Nat) (S : List Nat) (cur : List Value) (hm : 0 < m) (hm2 : m ≤ 1000000000) (hS : 0 < S.length) (w : World) (ha : Apart R Q B G) (hbR : b ≠ R) (hbQ : b ≠ Q) (hbB : b ≠ B) (hbG : b ≠ G)
    (h : Rdr w R Q B G S) (hb : Row w b tb cur) (hfit : o + m ≤ cur.length) :
    Calls Tryf.prog 84 #[.pointer (some ⟨R, 0, none⟩), .slice (some ⟨b, o, none⟩) m cap] w fun e w' => ∃ n : Nat, 0 < n ∧ n ≤ m ∧ n ≤ S.length ∧ e = .returned (.tuple #[.int .i64 (n : Int), .nilIface]) ∧
      Rdr w' R Q B G (S.drop n) ∧ Row w' b tb (put cur o (bv (S.take n))) ∧ Keep (fun k => k = R ∨ k = Q ∨ k = B ∨ k = b) w w' := by
  obtain ⟨r, v, lb, lr, rm, buf, rest, h1, h2, h3, h4, h5, h6, h7, rfl⟩ := h
  obtain ⟨hRQ, hRB, hQB, hRG, hQG⟩ := ha
  have hbl : buf.length = v - r := by
    have := congrArg List.length h6
    rw [bv_length, List.length_drop, List.length_take] at this
    omega
  by_cases hrv : r < v
  · refine (rd_buf R Q B b o m cap r v lb lr rm cur buf hm hm2 w hRQ hbR hbQ h1 h2 h3 hrv h5 h6 hb hfit).mono ?_
    rintro e w' ⟨rfl, ⟨lb', lr', g1⟩, g2, g3⟩
    have hn : min m buf.length ≤ buf.length := by omega
    refine ⟨min m buf.length, by omega, by omega, by rw [List.length_append]; omega, rfl, ⟨r + min m buf.length, v, lb', lr', rm, buf.drop (min m buf.length), rest, g1, g3.row h2 (fun x => by rcases x with x | x <;> omega), h3, by omega, h5, ?_, h7.keep g3 (fun x => by rcases x with x | x <;> omega) (fun x => by rcases x with x | x <;> omega), ?_⟩, ?_, g3.mono (fun k _ x => by rcases x with x | x; exact .inl x; exact .inr (.inr (.inr x)))⟩
    · rw [bv_drop, ← h6, List.drop_drop]
    · rw [List.drop_append_of_le_length hn]
    · rw [List.take_append_of_le_length hn]; exact g2
  · obtain rfl : r = v := by omega
    obtain rfl : buf = [] := List.length_eq_zero_iff.1 (by omega)
    simp only [List.nil_append] at hS ⊢
    by_cases hbig : 4096 ≤ m
    · refine (rd_big_some R Q B G b o m cap r lb lr rest cur hbig hm2 hS w hRB hRG hbR hbB hbG h1 h7 hb hfit).mono ?_
      rintro e w' ⟨rfl, ⟨lb', lr', g1⟩, g2, g3, g4⟩
      exact ⟨min m rest.length, by omega, by omega, by omega, rfl, ⟨r, r, lb', lr', rm, [], _, g1, g4.row h2 (fun x => by rcases x with x | x | x <;> omega), h3, h4, h5, h6, g2, rfl⟩, g3, g4.mono (fun k _ x => by rcases x with x | x | x; exact .inl x; exact .inr (.inr (.inl x)); exact .inr (.inr (.inr x)))⟩
    · refine (rd_fill R Q B G b o m cap r lb lr rm cur rest hm (by omega) hS w hRB hRG hRQ hQB hQG hbR hbQ hbB hbG h1 h2 h3 h7 hb hfit _ _ rfl rfl).mono ?_
      rintro e w' ⟨rfl, ⟨lb', lr', g1⟩, g2, g3, g4, g5⟩
      have hpl : (put rm 0 (bv (rest.take (min 4096 rest.length)))).length = 4096 := by rw [put_length _ _ _ (by rw [bv_length, List.length_take]; omega), h3]
      refine ⟨min m (min 4096 rest.length), by omega, by omega, by omega, rfl, ⟨min m (min 4096 rest.length), min 4096 rest.length, lb', lr', _, (rest.take (min 4096 rest.length)).drop (min m (min 4096 rest.length)), _, g1, g2, hpl, by omega, by omega, ?_, g3, ?_⟩, g4, g5⟩
      · have e := put_take rm 0 (bv (rest.take (min 4096 rest.length))) (by omega)
        rw [bv_length, List.length_take, Nat.zero_add, show min (min 4096 rest.length) rest.length = min 4096 rest.length by omega, List.take_zero, List.nil_append] at e
        rw [e, bv_drop]
      · rw [← List.drop_append_of_le_length (by rw [List.length_take]; omega), List.take_append_drop]
end Go.Proofs.Qxb6616818aFmt
