/-
  toParts: the walk.
-/
import Derived.Test.Qxb6616796aPart
namespace Go.Proofs.Qxb6616796a
open Go.RowKit

theorem Try.info33 : (Try.prog.info? 33).map (fun i => (i.zero, i.size, i.bytes)) = some (some (.agg #[.string ⟨#[]⟩, .string ⟨#[]⟩, .string ⟨#[]⟩, .string ⟨#[]⟩, .string ⟨#[]⟩, .slice none 0 0, .slice none 0 0, .string ⟨#[]⟩, .pointer none, .int .i64 0, .string ⟨#[]⟩, .slice none 0 0, .bool false, .pointer none, .pointer none]), 15, 224) := by kernel_rfl

/-- what one part of uimessage holds -/
structure PV : Type where
  ty : ByteArray
  tx : ByteArray
  st : ByteArray
  tn : ByteArray
  tc : ByteArray
  er : ByteArray
  a1 : Option Addr
  n1 : Nat
  c1 : Nat
  a2 : Option Addr
  n2 : Nat
  c2 : Nat
  q : Option Addr
def PV.cells (p : PV) : List Value := (PartCells p.ty p.tx p.st p.tn p.tc p.er p.a1 p.n1 p.c1 p.a2 p.n2 p.c2 p.q).toList
theorem PV.cells_length (p : PV) : p.cells.length = 15 := rfl
theorem PV.cells_one (p : PV) : ∀ u ∈ p.cells, u.oneCell' = true := by
  intro u hu
  simp only [PV.cells, PartCells] at hu
  simp at hu
  rcases hu with rfl | rfl | rfl | rfl | rfl | rfl | rfl | rfl | rfl | rfl | rfl | rfl | rfl | rfl | rfl <;> rfl
/-- type and text -/
def PV.tt (p : PV) : ByteArray × ByteArray := (p.ty, p.tx)
def heads (ps : Nat → LP) (n : Nat) : List (ByteArray × ByteArray) := (List.range n).map fun j => ((ps j).ty, (ps j).tx)
theorem heads_succ (ps : Nat → LP) (n : Nat) : heads ps (n + 1) = heads ps n ++ [((ps n).ty, (ps n).tx)] := by simp [heads, List.range_succ]

/-- the cells of a row of parts -/
def flat (qs : List PV) : List Value := qs.flatMap PV.cells
theorem flat_snoc (qs : List PV) (q : PV) : flat (qs ++ [q]) = flat qs ++ q.cells := by simp [flat]
theorem flat_length (qs : List PV) : (flat qs).length = qs.length * 15 := by
  induction qs with
  | nil => rfl
  | cons q t ih => simp only [flat, List.flatMap_cons, List.length_append, PV.cells_length, List.length_cons] at ih ⊢; omega

theorem own_keep {w w' : World} {B : Nat} {e : TypeId} {size : Nat} {v : Value} {n : Nat} {xs : List Value} (h : w.ownsRow B e size v n xs) (hb : Below w.heap.size w w') : w'.ownsRow B e size v n xs := by
  refine ⟨h.1, ?_⟩
  rcases h.2 with h2 | ⟨g, cap, cur, hv, hg, hh, r⟩
  · exact .inl h2
  · exact .inr ⟨g, cap, cur, hv, hg, (hb.block g (Array.getElem?_eq_some_iff.1 hh).1).trans hh, r⟩

set_option maxHeartbeats 2000000 in
set_option maxRecDepth 100000 in
theorem toparts_any (a : Option Addr) (n cap : Nat) (hn : n ≤ 65536) (ps : Nat → LP) (hf : Fit ps n) (w : World) (hp : PartsAt w a n ps) :
    Calls Try.prog 9 #[.slice a n cap] w fun e w' => e = .returned (.slice (some ⟨w.heap.size, 0, none⟩) n n) ∧ ∃ qs, qs.map PV.tt = heads ps n ∧ w'.ownsRow w.heap.size 33 15 (.slice (some ⟨w.heap.size, 0, none⟩) n n) n (flat qs) ∧ Below w.heap.size w w' := by
  obtain ⟨i0, hi, hz0, hz1, hz2⟩ := info_parts Try.info33
  have HP : Hid (PartsAt w a n ps) := hp
  have HF : Hid (Fit ps n) := hf
  clear hp hf
  go_enter Try.func9, Try.ntmps9
  go_wp2_with (at_make; refine wpList_make_own _ rfl _ _ 26 rfl w.heap.size 33 i0 _ 15 Try.underlying26 hi hz0 hz1 _ _ _ n rfl rfl (by omega) ?bytes ?maxLen ?base ?_)
  case bytes => rw [hz2]; omega
  case maxLen => unfold maxLen; omega
  case base => exact Nat.le_refl _
  intro w1 hown1 hgrow1
  have hb1 : Below w.heap.size w w1 := (Below.refl _ _).grown hgrow1 (Nat.le_refl _) (fun k hk => by cases hk)
  clear hgrow1
  have HO1 : Hid (w1.ownsRow w.heap.size 33 15 (.slice (some ⟨w.heap.size, 0, none⟩) 0 n) 0 []) := hown1
  clear hown1
  go_wp2
  go_loopw [3, 4] (fun v t wr => ∃ (k : Nat) (qs : List PV), k ≤ n ∧ t = .int .i64 (k : Int) ∧ v = .slice (some ⟨w.heap.size, 0, none⟩) k n ∧ qs.map PV.tt = heads ps k ∧ wr.ownsRow w.heap.size 33 15 (.slice (some ⟨w.heap.size, 0, none⟩) k n) k (flat qs) ∧ Below w.heap.size w wr) (fun _ t _ => n - (intOf t).toNat)
  case atStart => exact ⟨0, [], by omega, rfl, rfl, rfl, HO1.out, hb1⟩
  case round =>
    obtain ⟨k, qs, hk, rfl, rfl, hqs, hown, hbel⟩ := hrel
    have HQ : Hid (qs.map PV.tt = heads ps k) := hqs
    have HO : Hid (wr.ownsRow w.heap.size 33 15 (.slice (some ⟨w.heap.size, 0, none⟩) k n) k (flat qs)) := hown
    clear hqs hown HO1
    by_cases hlt : k < n
    · have i1 : (k : Int) < (n : Int) := by omega
      rcases HP.out with h | ⟨b, o, ha, hpa⟩
      · omega
      have q := (hpa k hlt).kept hbel
      subst ha
      clear hpa
      have c0 := q.c0
      have c1 := q.c1
      have c2 := q.c2
      have c3 := q.c3
      have c4 := q.c4
      have c5 := q.c5
      have c6 := q.c6
      have c7 := q.c7
      have c8 := q.c8
      go_wp2_with fail
      refine (topart_any (ps k) (HF.out k hlt).1 (HF.out k hlt).2 _ q.bi q.bo q.ap).mono ?_
      rintro e w2 ⟨x1, y1, x2, y2, z, rfl, hb2⟩
      have hown2 : w2.ownsRow w.heap.size 33 15 (.slice (some ⟨w.heap.size, 0, none⟩) k n) k (flat qs) := own_keep HO.out hb2
      have hbel2 : Below w.heap.size w w2 := keep_call hbel hb2
      unfold PartCells
      go_wp2_with (at_builtin; refine wpList_append_fits _ rfl _ _ 26 rfl w.heap.size 33 i0 15 Try.underlying26 hi hz1 w.heap.size k n (flat qs) rfl (hown2.alloc _) ⟨w2.heap.size, 0, none⟩ 1 1 (PV.cells ⟨(ps k).ty, (ps k).tx, (ps k).st, (ps k).tn, (ps k).tc, (ps k).er, x1, (ps k).il, y1, x2, (ps k).ol, y2, z⟩) rfl rfl ?c1 (PV.cells_one _) (by omega) ?_)
      case c1 =>
        intro j u hj
        have e := heap_alloc_new w2 (.cells (PartCells (ps k).ty (ps k).tx (ps k).st (ps k).tn (ps k).tc (ps k).er x1 (ps k).il y1 x2 (ps k).ol y2 z) 33)
        have e2 : (⟨w2.heap.size, 0, none⟩ : Addr).add j = ⟨w2.heap.size, j, none⟩ := by unfold Addr.add; split <;> simp_all
        rw [e2]
        exact (cell_at j e).trans (by simpa [PV.cells] using hj)
      intro w3 hown3 hgrow3
      have hbel3 : Below w.heap.size w w3 := (keep_alloc hbel2 _).grown hgrow3 (by have := hbel2.size; simp; omega) (fun k hk => by simp at hk; omega)
      have HO3 : Hid (w3.ownsRow w.heap.size 33 15 (.slice (some ⟨w.heap.size, 0, none⟩) (k + 1) n) (k + 1) (flat (qs ++ [⟨(ps k).ty, (ps k).tx, (ps k).st, (ps k).tn, (ps k).tc, (ps k).er, x1, (ps k).il, y1, x2, (ps k).ol, y2, z⟩]))) := by
        show World.ownsRow _ _ _ _ _ _ _
        rw [flat_snoc]; exact hown3
      clear hown3 hgrow3 hown2 HO
      go_wp2
      go_roundw
      case rel => exact ⟨k + 1, _, by omega, by go_num, rfl, by rw [List.map_append, HQ.out, heads_succ]; rfl, HO3.out, hbel3⟩
      case measure => simp [intOf]; omega
    · have i1 : ¬ (k : Int) < (n : Int) := by omega
      obtain rfl : k = n := by omega
      go_wp2
      go_ret
      exact ⟨rfl, qs, HQ.out, HO.out, hbel⟩
end Go.Proofs.Qxb6616796a
