/-
  slices.Grow at []byte: the walk (after the library's own contract, at this program's numbers).
-/
import Derived.Test.Qxb6616818aFmtFull
import Derived.Lib.Walk
import Derived.Lib.AppendZerosOnto
namespace Go.Proofs.Qxb6616818aFmt
open Go.RowKit Go.Lib

theorem Tryf.info5 : (Tryf.prog.info? 5).map (fun i => (i.zero, i.size, i.bytes)) = some (some (.int .u8 0), 1, 1) := by kernel_rfl

/-- a slice of bytes at the head of block g0 or of a block from N on, or nil; its bytes -/
def Room (w : World) (N g0 : Nat) (v : Value) (xs : List Nat) : Prop :=
  (v = .slice none 0 0 ∧ xs = []) ∨ ∃ g c cur, v = .slice (some ⟨g, 0, none⟩) xs.length c ∧ (g = g0 ∨ N ≤ g) ∧ xs.length ≤ c ∧ c ≤ 9223372036854775807 ∧ Row w g 5 cur ∧ cur.length = c ∧ cur.take xs.length = bv xs

set_option maxHeartbeats 2000000 in
set_option maxRecDepth 100000 in
theorem grow_room (base : Option Addr) (l c n : Nat) (w : World) (hlc : l ≤ c) (hc : c ≤ 9223372036854775807) (hroom : l + n ≤ c) :
    Calls Tryf.prog 57 #[.slice base l c, .int .i64 (n : Int)] w fun e w' => e = .returned (.slice base l c) ∧ w = w' := by
  have h1 : ¬ ((n : Int) < 0) := by omega
  have h2 : (c : Int) - (l : Int) ≤ 9223372036854775807 := by omega
  have h3 : (0 : Int) ≤ (c : Int) - (l : Int) := by omega
  have h4 : (n : Int) ≤ (c : Int) - (l : Int) := by omega
  have h5 : (n : Int) ≤ 9223372036854775807 := by omega
  go_enter Tryf.func57, Tryf.ntmps57
  go_wp2
  go_ret
  exact ⟨rfl, rfl⟩

/-- a new row, with room for n more, that begins as the old one did -/
def GrowEnd (w : World) (l n : Nat) (cs : List Value) (e : Ending) (w' : World) : Prop :=
  ∃ C cells, e = .returned (.slice (some ⟨w.heap.size, 0, none⟩) l C) ∧ l + n ≤ C ∧ C ≤ 9223372036854775807 ∧ Row w' w.heap.size 5 cells ∧ cells.length = C ∧ cells.take l = cs.take l ∧ Keep (fun _ => False) w w'

set_option maxHeartbeats 4000000 in
set_option maxRecDepth 100000 in
theorem grow_grow (base : Option Addr) (l c n : Nat) (cs : List Value) (w : World) (hlc : l ≤ c) (hroom : c < l + n) (hbig : l + n ≤ 1000000000)
    (hcl : cs.length = c) (hnil : base = none → c = 0) (hcs : ∀ a, base = some a → ∀ j v, cs[j]? = some v → w.cell? (a.add j) = some v) :
    Calls Tryf.prog 57 #[.slice base l c, .int .i64 (n : Int)] w (GrowEnd w l n cs) := by
  obtain ⟨i0, hi0, hz0, hz1, hz2⟩ := info_parts Tryf.info5
  have h1 : ¬ ((n : Int) < 0) := by omega
  have h2 : (c : Int) - (l : Int) ≤ 1000000000 := by omega
  have h3 : (0 : Int) ≤ (c : Int) - (l : Int) := by omega
  have h4 : ¬ (n : Int) ≤ (c : Int) - (l : Int) := by omega
  have h4' : (c : Int) - (l : Int) < (n : Int) := by omega
  have h5 : (n : Int) ≤ 1000000000 := by omega
  have hck : c + (l + n - c) = l + n := by omega
  have hold : (Builtin.firstCells i0.size c (.slice base c c)).run Tryf.prog w.drew = .ok cs.toArray w.drew := by
    rw [hz1]
    cases base with
    | none =>
      have h0 := hnil rfl
      subst h0
      have hc0 : cs = [] := List.length_eq_zero_iff.1 hcl
      rw [hc0]
      exact run_firstCells_none w.drew 1 0 0 0
    | some a => exact run_firstCells_some w.drew 1 c a c c cs (by omega) (fun j v hj => hcs a rfl j v hj)
  have hrz : ∀ ty, (Builtin.append_ #[24, 3] ty #[.slice base c c, .int .i64 ((n : Int) - ((c : Int) - (l : Int)))]).run Tryf.prog w =
      .ok (.slice (some ⟨w.heap.size, 0, none⟩) (l + n) (grownCap w (l + n) c 5)) (w.drew.alloc (.cells (cs.toArray ++ Builtin.zeroCells (Value.int .u8 0).cells (l + n - c) ++ Builtin.zeroCells (Value.int .u8 0).cells (grownCap w (l + n) c 5 - (l + n))) 5)) := fun ty => by
    have h := Lib.run_append_grow_zeros w 24 3 ty 5 i0 (.int .u8 0) .i64 .i64 Tryf.underlying24 Tryf.underlying3 hi0 hz0 base c c cs hold (l + n - c) (by omega) (by omega) (by omega) (by omega)
      (by rw [hz2]; omega)
      (by rw [hck]; exact growslice_fits hroom (by rw [hz2]; omega))
    rw [hck] at h
    rw [show (n : Int) - ((c : Int) - (l : Int)) = ((l + n - c : Nat) : Int) by omega]
    exact h
  have hGn : l + n ≤ grownCap w (l + n) c 5 := grownCap_ge w _ _ _
  have hGm := grownCap_le_maxLen w (l + n) c 5 (by unfold maxLen; omega)
  unfold maxLen at hGm
  generalize grownCap w (l + n) c 5 = G at *
  have hlen : (cs.toArray ++ Builtin.zeroCells (Value.int .u8 0).cells (l + n - c) ++ Builtin.zeroCells (Value.int .u8 0).cells (G - (l + n))).size = G := by
    simp only [Array.size_append, size_zeroCells, List.size_toArray]
    simp [Value.cells]
    omega
  have htk : (cs.toArray ++ Builtin.zeroCells (Value.int .u8 0).cells (l + n - c) ++ Builtin.zeroCells (Value.int .u8 0).cells (G - (l + n))).toList.take l = cs.take l := by
    rw [Array.toList_append, Array.toList_append, List.append_assoc]
    exact List.take_append_of_le_length (by simp; omega)
  generalize cs.toArray ++ Builtin.zeroCells (Value.int .u8 0).cells (l + n - c) ++ Builtin.zeroCells (Value.int .u8 0).cells (G - (l + n)) = Z at *
  clear hold hck hcs
  go_enter Tryf.func57, Tryf.ntmps57
  cases base with
  | none =>
    have h0 := hnil rfl
    subst h0
    obtain rfl : l = 0 := by omega
    go_wp2_with (at_builtin; refine Lib.wpList_append_run _ rfl _ _ _ _ rfl _ _ rfl rfl _ _ (hrz _) ?_)
    all_goals (go_ret; exact ⟨G, Z.toList, rfl, by omega, hGm, (Row.newA w Z 5).drew, by simpa using hlen, htk, ((Keep.refl _ w).alloc _).drew⟩)
  | some a =>
    obtain ⟨ab, ao, asp⟩ := a
    go_wp2_with (at_builtin; refine Lib.wpList_append_run _ rfl _ _ _ _ rfl _ _ rfl rfl _ _ (hrz _) ?_)
    all_goals (go_ret; exact ⟨G, Z.toList, rfl, by omega, hGm, (Row.newA w Z 5).drew, by simpa using hlen, htk, ((Keep.refl _ w).alloc _).drew⟩)

/-- there is room for n more behind the bytes -/
def Grown1 (w : World) (N g0 n : Nat) (xs : List Nat) (e : Ending) (w' : World) : Prop :=
  Keep (fun _ => False) w w' ∧ ∃ g c cur, e = .returned (.slice (some ⟨g, 0, none⟩) xs.length c) ∧ (g = g0 ∨ N ≤ g) ∧ xs.length + n ≤ c ∧ c ≤ 9223372036854775807 ∧ Row w' g 5 cur ∧ cur.length = c ∧ cur.take xs.length = bv xs

theorem grow_any (N g0 n : Nat) (v : Value) (xs : List Nat) (w : World) (hN : N ≤ w.heap.size) (hn : 0 < n) (hbig : xs.length + n ≤ 1000000000) (h : Room w N g0 v xs) :
    Calls Tryf.prog 57 #[v, .int .i64 (n : Int)] w (Grown1 w N g0 n xs) := by
  rcases h with ⟨rfl, rfl⟩ | ⟨g, c, cur, rfl, hg, hlc, hc, hr, hl, ht⟩
  · refine (grow_grow none 0 0 n [] w (by omega) (by omega) (by simpa using hbig) rfl (fun _ => rfl) (fun a ha => by cases ha)).mono ?_
    rintro e w' ⟨C, cells, rfl, h1, h2, h3, h4, h5, h6⟩
    exact ⟨h6, _, C, cells, rfl, .inr hN, by simpa using h1, h2, h3, h4, by simp [bv]⟩
  · by_cases hroom : xs.length + n ≤ c
    · refine (grow_room _ xs.length c n w hlc hc hroom).mono ?_
      rintro e w' ⟨rfl, rfl⟩
      exact ⟨Keep.refl _ _, g, c, cur, rfl, hg, hroom, hc, hr, hl, ht⟩
    · refine (grow_grow _ xs.length c n cur w hlc (by omega) hbig hl (fun h => by cases h) (fun a ha => by cases ha; exact row_src hr 0 cur (fun j v hj => by rwa [Nat.zero_add]))).mono ?_
      rintro e w' ⟨C, cells, rfl, h1, h2, h3, h4, h5, h6⟩
      exact ⟨h6, _, C, cells, rfl, .inr hN, h1, h2, h3, h4, h5.trans ht⟩
end Go.Proofs.Qxb6616818aFmt
