/-
  The length in a header; zzFrameAt: the walk.
-/
import Derived.Test.Qxb6616818aFmtPayload
import Derived.Laws.BitsAllLaws
namespace Go.Proofs.Qxb6616818aFmt
open Go.RowKit

theorem i64_or_nat (a b : Nat) (ha : a < 9223372036854775808) (hb : b < 9223372036854775808) : bits .or .i64 (a : Int) (b : Int) = ((a ||| b : Nat) : Int) := by
  have hx : a ||| b < 2 ^ 63 := Nat.or_lt_two_pow (by omega) (by omega)
  show IntKind.i64.wrap ((BitVec.ofInt 64 (a : Int) ||| BitVec.ofInt 64 (b : Int)).toNat : Int) = _
  rw [BitVec.toNat_or, ofInt_u64 a (by omega), ofInt_u64 b (by omega), IntKind.wrap_i64]
  omega

/-- the length in the first three bytes -/
def hdrN (b0 b1 b2 : Nat) : Nat := (b0 ||| b1 * 256) ||| b2 * 65536
theorem hdrN_lt {b0 b1 b2 : Nat} (h0 : b0 < 256) (h1 : b1 < 256) (h2 : b2 < 256) : hdrN b0 b1 b2 < 16777216 :=
  Nat.or_lt_two_pow (n := 24) (Nat.or_lt_two_pow (n := 24) (by omega) (by omega)) (by omega)
theorem hdr_eq {b0 b1 b2 : Nat} (h0 : b0 < 256) (h1 : b1 < 256) (h2 : b2 < 256) : bits .or .i64 (bits .or .i64 (b0 : Int) ((b1 : Int) * 256)) ((b2 : Int) * 65536) = (hdrN b0 b1 b2 : Int) := by
  have e1 : bits .or .i64 (b0 : Int) ((b1 : Int) * 256) = ((b0 ||| b1 * 256 : Nat) : Int) := i64_or_nat b0 (b1 * 256) (by omega) (by omega)
  have hx : b0 ||| b1 * 256 < 2 ^ 24 := Nat.or_lt_two_pow (by omega) (by omega)
  rw [e1]
  exact i64_or_nat (b0 ||| b1 * 256) (b2 * 65536) (by omega) (by omega)

/-- the length of the frame at the head of S that is due, if it is whole and short enough -/
def frame? (S : List Nat) (q : Nat) (mp : Int) : Option Nat :=
  match S with
  | b0 :: b1 :: b2 :: b3 :: rest => if b3 = q ∧ (hdrN b0 b1 b2 : Int) ≤ mp ∧ hdrN b0 b1 b2 < 16777215 ∧ hdrN b0 b1 b2 ≤ rest.length then some (hdrN b0 b1 b2) else none
  | _ => none

/-- what zzFrameAt answers -/
def frameVal (o : Option Nat) : Value := match o with
  | some n => .tuple #[.int .i64 (n : Int), .bool true]
  | none => .tuple #[.int .i64 0, .bool false]

theorem frame_short {S : List Nat} (h : S.length < 4) (q : Nat) (mp : Int) : frame? S q mp = none := by
  match S, h with
  | [], _ => rfl
  | [_], _ => rfl
  | [_, _], _ => rfl
  | [_, _, _], _ => rfl
theorem four {S : List Nat} (h : 4 ≤ S.length) : ∃ b0 b1 b2 b3 r, S = b0 :: b1 :: b2 :: b3 :: r := by
  match S, h with
  | b0 :: b1 :: b2 :: b3 :: r, _ => exact ⟨b0, b1, b2, b3, r, rfl⟩

set_option maxHeartbeats 2000000 in
set_option maxRecDepth 100000 in
theorem frameAt_short (a : Option Addr) (n cap pos q : Nat) (mp : Int) (w : World) (hpn : pos ≤ n) (hpos : n < pos + 4) :
    Calls Tryf.prog 16 #[.slice a n cap, .int .i64 (pos : Int), .int .u8 (q : Int), .int .i64 mp] w fun e w' => e = .returned (frameVal none) ∧ ∃ k, w' = w.drewN k := by
  have i1 : (n : Int) - (pos : Int) < 4 := by omega
  have i2 : (0 : Int) ≤ (n : Int) - (pos : Int) := by omega
  go_enter Tryf.func16, Tryf.ntmps16
  go_wp2
  go_ret2
  exact ⟨rfl, 0, rfl⟩

set_option maxHeartbeats 2000000 in
set_option maxRecDepth 100000 in
theorem frameAt_head (b o n cap pos q : Nat) (mp : Int) (b0 b1 b2 b3 : Nat) (w : World) (hpos : pos + 4 ≤ n) (hn : n ≤ 1048576)
    (h0 : b0 < 256) (h1 : b1 < 256) (h2 : b2 < 256) (hq : q < 256)
    (c0 : w.cell? ⟨b, o + pos, none⟩ = some (.int .u8 (b0 : Int))) (c1 : w.cell? ⟨b, o + (pos + 1), none⟩ = some (.int .u8 (b1 : Int))) (c2 : w.cell? ⟨b, o + (pos + 2), none⟩ = some (.int .u8 (b2 : Int))) (c3 : w.cell? ⟨b, o + (pos + 3), none⟩ = some (.int .u8 (b3 : Int))) :
    Calls Tryf.prog 16 #[.slice (some ⟨b, o, none⟩) n cap, .int .i64 (pos : Int), .int .u8 (q : Int), .int .i64 mp] w fun e w' =>
      e = .returned (frameVal (if b3 = q ∧ (hdrN b0 b1 b2 : Int) ≤ mp ∧ hdrN b0 b1 b2 < 16777215 ∧ hdrN b0 b1 b2 ≤ n - pos - 4 then some (hdrN b0 b1 b2) else none)) ∧ ∃ k, w' = w.drewN k := by
  have i1 : ¬ (n : Int) - (pos : Int) < 4 := by omega
  have i2 : (pos : Int) + 3 < (n : Int) := by omega
  have i3 : (pos : Int) + 2 < (n : Int) := by omega
  have i4 : (pos : Int) + 1 < (n : Int) := by omega
  have i5 : (pos : Int) < (n : Int) := by omega
  have i6 : (n : Int) ≤ 1048576 := by omega
  have hh := hdr_eq h0 h1 h2
  have hl := hdrN_lt h0 h1 h2
  obtain ⟨H, hH⟩ : ∃ H, hdrN b0 b1 b2 = H := ⟨_, rfl⟩
  rw [hH] at hh hl ⊢
  clear hH
  by_cases g1 : b3 = q
  · subst g1
    have hne : ((b3 : Int) != (b3 : Int)) = false := by simp
    by_cases g2 : (H : Int) ≤ mp
    · have k1 : decide (mp < (H : Int)) = false := by simp; omega
      by_cases g3 : H < 16777215
      · have k2 : decide ((16777215 : Int) ≤ (H : Int)) = false := by simp; omega
        by_cases g4 : H ≤ n - pos - 4
        · rw [if_pos ⟨rfl, g2, g3, g4⟩]
          have k3 : decide ((n : Int) - (pos : Int) - 4 < (H : Int)) = false := by simp; omega
          go_enter Tryf.func16, Tryf.ntmps16
          go_wp2
          go_quiet (fail)
          go_wp2
          go_ret2
          exact ⟨rfl, _, rfl⟩
        · rw [if_neg (fun h => g4 h.2.2.2)]
          have k3 : decide ((n : Int) - (pos : Int) - 4 < (H : Int)) = true := by simp; omega
          go_enter Tryf.func16, Tryf.ntmps16
          go_wp2
          go_quiet (fail)
          go_wp2
          go_ret2
          exact ⟨rfl, _, rfl⟩
      · rw [if_neg (fun h => g3 h.2.2.1)]
        have k2 : decide ((16777215 : Int) ≤ (H : Int)) = true := by simp; omega
        go_enter Tryf.func16, Tryf.ntmps16
        go_wp2
        go_quiet (fail)
        go_wp2
        go_ret2
        exact ⟨rfl, _, rfl⟩
    · rw [if_neg (fun h => g2 h.2.1)]
      have k1 : decide (mp < (H : Int)) = true := by simp; omega
      go_enter Tryf.func16, Tryf.ntmps16
      go_wp2
      go_quiet (fail)
      go_wp2
      go_ret2
      exact ⟨rfl, _, rfl⟩
  · rw [if_neg (fun h => g1 h.1)]
    have hne : ((b3 : Int) != (q : Int)) = true := by simp; omega
    go_enter Tryf.func16, Tryf.ntmps16
    go_wp2
    go_ret2
    exact ⟨rfl, 0, rfl⟩

/-- the slice a, n, cap reads as the bytes xs -/
def Reads (w : World) (a : Option Addr) (n : Nat) (xs : List Nat) : Prop :=
  xs.length = n ∧ (∀ x ∈ xs, x < 256) ∧ (n = 0 ∨ ∃ b o, a = some ⟨b, o, none⟩ ∧ ∀ j (h : j < xs.length), w.cell? ⟨b, o + j, none⟩ = some (.int .u8 (xs[j] : Int)))

theorem frameAt_any (a : Option Addr) (n cap pos q : Nat) (mp : Int) (xs : List Nat) (w : World) (hpn : pos ≤ n) (hn : n ≤ 1048576) (hq : q < 256) (hx : Reads w a n xs) :
    Calls Tryf.prog 16 #[.slice a n cap, .int .i64 (pos : Int), .int .u8 (q : Int), .int .i64 mp] w fun e w' => e = .returned (frameVal (frame? (xs.drop pos) q mp)) ∧ ∃ k, w' = w.drewN k := by
  obtain ⟨hl, h256, hc⟩ := hx
  by_cases hs : n < pos + 4
  · rw [frame_short (by rw [List.length_drop]; omega)]
    exact frameAt_short a n cap pos q mp w hpn hs
  · rcases hc with hc | ⟨b, o, rfl, hc⟩
    · omega
    have e0 := List.drop_eq_getElem_cons (l := xs) (i := pos) (by omega)
    have e1 := List.drop_eq_getElem_cons (l := xs) (i := pos + 1) (by omega)
    have e2 := List.drop_eq_getElem_cons (l := xs) (i := pos + 1 + 1) (by omega)
    have e3 := List.drop_eq_getElem_cons (l := xs) (i := pos + 1 + 1 + 1) (by omega)
    rw [e0, e1, e2, e3]
    have hlen : (xs.drop (pos + 1 + 1 + 1 + 1)).length = n - pos - 4 := by rw [List.length_drop]; omega
    simp only [frame?]
    rw [hlen]
    exact frameAt_head b o n cap pos q mp _ _ _ _ w (by omega) hn (h256 _ (List.getElem_mem _)) (h256 _ (List.getElem_mem _)) (h256 _ (List.getElem_mem _)) hq (hc _ (by omega)) (hc _ (by omega)) (hc _ (by omega)) (hc _ (by omega))
end Go.Proofs.Qxb6616818aFmt
