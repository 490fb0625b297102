/-
  toPart: the walk.
-/
import Derived.Test.Qxb6616796aClone
import Derived.Deep.RegionHeld3
import Derived.Deep.DeepCutAuto
namespace Go.Proofs.Qxb6616796a
open Go.RowKit

theorem cell_at {w : World} {b : Nat} {c : Array Value} {t : TypeId} {fr : Nat × Nat} (o : Nat) (h : w.heap[b]? = some (.cells c t fr)) : w.cell? ⟨b, o, none⟩ = c[o]? := by
  unfold World.cell?; simp only [h]; rfl
theorem frozen_at {w : World} {b : Nat} {c : Array Value} {t : TypeId} (o : Nat) (h : w.heap[b]? = some (.cells c t (0, 0))) : w.frozen? ⟨b, o, none⟩ = false := by
  unfold World.frozen?; simp only [h]; simp
theorem heap_two (w : World) (o1 o2 : Obj) : ((w.alloc o1).alloc o2).heap[w.heap.size]? = some o1 ∧ ((w.alloc o1).alloc o2).heap[w.heap.size + 1]? = some o2 := by
  have ha : (w.alloc o1).heap.size = w.heap.size + 1 := by simp
  refine ⟨?_, ?_⟩
  · rw [heap_alloc_old _ _ (by omega)]; exact heap_alloc_new w o1
  · have := heap_alloc_new (w.alloc o1) o2
    rw [ha] at this; exact this

/-- the cells of a part of uimessage that toPart lays at first -/
def PartCells (ty tx st tn tc er : ByteArray) (a1 : Option Addr) (n1 c1 : Nat) (a2 : Option Addr) (n2 c2 : Nat) (ap : Option Addr) : Array Value :=
  #[.string ty, .string tx, .string st, .string tn, .string tc, .slice a1 n1 c1, .slice a2 n2 c2, .string er, .pointer ap, .int .i64 0, .string ⟨#[]⟩, .slice none 0 0, .bool false, .pointer none, .pointer none]

theorem keep_call {w Wc w1 : World} (h : Below w.heap.size w Wc) (hb : Below Wc.heap.size Wc w1) : Below w.heap.size w w1 := h.trans (hb.mono h.size)
theorem keep_alloc {w Wc : World} (h : Below w.heap.size w Wc) (o : Obj) : Below w.heap.size w (Wc.alloc o) := h.alloc h.size o
theorem cell_alloc {W : World} {a : Addr} {v : Value} (o : Obj) (h : W.cell? a = some v) : (W.alloc o).cell? a = some v := by
  rw [World.cell?_alloc_lt _ _ _ (World.block_lt_of_cell? W a h)]; exact h

theorem cell_alloc_drew {W : World} {a : Addr} {v : Value} (o : Obj) (h : W.cell? a = some v) : (W.alloc o).drew.cell? a = some v := cell_alloc o h
theorem feed {p q : Prop} (h : p) (k : p → q) : q := k h
/-- what is known of a block P that the region has laid, while later calls go on -/
structure Laid (W : World) (P : Nat) (c : Array Value) (t : TypeId) (w1 : World) : Prop where
  block : w1.heap[P]? = some (.cells c t (0, 0))
  cell : ∀ j, w1.cell? ⟨P, j, none⟩ = c[j]?
  free : ∀ j, w1.frozen? ⟨P, j, none⟩ = false
  lt : P < w1.heap.size
  lo : W.heap.size ≤ P
theorem fresh_call {W Wp w1 : World} {c : Array Value} {t : TypeId} (hS : Below W.heap.size W Wp) (hb : Below (Wp.alloc (.cells c t)).heap.size (Wp.alloc (.cells c t)) w1) : Laid W Wp.heap.size c t w1 := by
  have e := (hb.block Wp.heap.size (by simp)).trans (heap_alloc_new Wp (.cells c t))
  exact ⟨e, fun j => cell_at j e, fun j => frozen_at j e, (Array.getElem?_eq_some_iff.1 e).1, hS.size⟩
theorem fresh_call_drew {W w1 : World} {c : Array Value} {t : TypeId} (hb : Below (W.alloc (.cells c t)).drew.heap.size (W.alloc (.cells c t)).drew w1) : Laid W W.heap.size c t w1 :=
  fresh_call (Wp := W) (c := c) (t := t) (Below.refl _ _) ⟨hb.os, hb.tape, hb.output, hb.size, hb.block⟩
theorem carry_call {W Wc w1 : World} {P : Nat} {c : Array Value} {t : TypeId} (h : Laid W P c t Wc) (hb : Below Wc.heap.size Wc w1) : Laid W P c t w1 :=
  ⟨(hb.block P h.lt).trans h.block, fun j => (hb.cell (p := ⟨P, j, none⟩) h.lt).trans (h.cell j), fun j => (hb.frozen (p := ⟨P, j, none⟩) h.lt).trans (h.free j), Nat.lt_of_lt_of_le h.lt hb.size, h.lo⟩
theorem below_set {w X : World} {P j : Nat} {v : Value} (h : Below w.heap.size w X) (hP : w.heap.size ≤ P) : Below w.heap.size w (X.setCell ⟨P, j, none⟩ v) := h.setCell (p := ⟨P, j, none⟩) hP v
theorem heap_set {X : World} {P j : Nat} {v : Value} {c : Array Value} {t : TypeId} (h : X.heap[P]? = some (.cells c t (0, 0))) : (X.setCell ⟨P, j, none⟩ v).heap[P]? = some (.cells (c.setIfInBounds j v) t (0, 0)) := by
  simp [World.setCell, Array.getElem?_modify, h]
theorem heap_set_ne {X : World} {P R j : Nat} {v : Value} (h : P ≠ R) : (X.setCell ⟨P, j, none⟩ v).heap[R]? = X.heap[R]? := Below.heap_setCell _ _ _ _ (by simpa using h.symm)
theorem heap_alloc_keep {X : World} {R : Nat} {c : Array Value} {t : TypeId} {o : Obj} (h : X.heap[R]? = some (.cells c t (0, 0))) : (X.alloc o).heap[R]? = some (.cells c t (0, 0)) := (Below.heap_alloc _ _ _ (Array.getElem?_eq_some_iff.1 h).1).trans h
theorem keep_set {W X : World} {P j : Nat} {v : Value} (h : Below W.heap.size W X) (hP : W.heap.size ≤ P) : Below W.heap.size W (X.setCell ⟨P, j, none⟩ v) := h.setCell (p := ⟨P, j, none⟩) hP v
theorem cell_set {W X : World} {H P i j : Nat} {u v : Value} (h : X.cell? ⟨H, i, none⟩ = some u) (hH : H < W.heap.size) (hP : W.heap.size ≤ P) : (X.setCell ⟨P, j, none⟩ v).cell? ⟨H, i, none⟩ = some u := by
  rw [World.cell?_setCell_other _ _ _ _ (by simp only [ne_eq, Addr.mk.injEq, and_true]; omega)]; exact h

theorem fill15 {X : World} {P : Nat} {t : TypeId} (z0 z1 z2 z3 z4 z5 z6 z7 z8 z9 z10 z11 z12 z13 z14 v0 v1 v2 v3 v4 v5 v6 v7 v8 v9 v10 v11 v12 v13 v14 : Value) (h : X.heap[P]? = some (.cells #[z0, z1, z2, z3, z4, z5, z6, z7, z8, z9, z10, z11, z12, z13, z14] t (0, 0))) :
    (((((((((((((((X.setCell ⟨P, 0, none⟩ v0).setCell ⟨P, 1, none⟩ v1).setCell ⟨P, 2, none⟩ v2).setCell ⟨P, 3, none⟩ v3).setCell ⟨P, 4, none⟩ v4).setCell ⟨P, 5, none⟩ v5).setCell ⟨P, 6, none⟩ v6).setCell ⟨P, 7, none⟩ v7).setCell ⟨P, 8, none⟩ v8).setCell ⟨P, 9, none⟩ v9).setCell ⟨P, 10, none⟩ v10).setCell ⟨P, 11, none⟩ v11).setCell ⟨P, 12, none⟩ v12).setCell ⟨P, 13, none⟩ v13).setCell ⟨P, 14, none⟩ v14).heap[P]? = some (.cells #[v0, v1, v2, v3, v4, v5, v6, v7, v8, v9, v10, v11, v12, v13, v14] t (0, 0)) := by
  have k := heap_set (j := 14) (v := v14) (heap_set (j := 13) (v := v13) (heap_set (j := 12) (v := v12) (heap_set (j := 11) (v := v11) (heap_set (j := 10) (v := v10) (heap_set (j := 9) (v := v9) (heap_set (j := 8) (v := v8) (heap_set (j := 7) (v := v7) (heap_set (j := 6) (v := v6) (heap_set (j := 5) (v := v5) (heap_set (j := 4) (v := v4) (heap_set (j := 3) (v := v3) (heap_set (j := 2) (v := v2) (heap_set (j := 1) (v := v1) (heap_set (j := 0) (v := v0) (h)))))))))))))))
  refine k.trans (congrArg some (congrArg (fun c => Obj.cells c t (0, 0)) ?_))
  simp

set_option maxHeartbeats 1000000 in
set_option maxRecDepth 100000 in
theorem fin17 (Q : Ending → World → Prop) (act : Act) (X : World) (R : Nat) (v0 v1 v2 v3 v4 v5 v6 v7 v8 v9 v10 v11 v12 v13 v14 : Value) (h2 : act.tmps[2]?.getD undef = .pointer (some ⟨R, 0, none⟩)) (hd : act.defers = [])
    (hX : X.heap[R]? = some (.cells #[v0, v1, v2, v3, v4, v5, v6, v7, v8, v9, v10, v11, v12, v13, v14] 33 (0, 0))) (hQ : Q (.returned (.agg #[v0, v1, v2, v3, v4, v5, v6, v7, v8, v9, v10, v11, v12, v13, v14])) X) : bodyPost Try.prog Try.f17 Q Exit.ret act X := by
  have hc := fun j => cell_at j hX
  refine bodyPost_ret (v := .agg #[v0, v1, v2, v3, v4, v5, v6, v7, v8, v9, v10, v11, v12, v13, v14]) ?_ hd hQ
  simp [results, Try.results17, go_sem, h2, hc]

set_option maxHeartbeats 2000000 in
set_option maxRecDepth 100000 in
theorem topart_any (p : LP) (hli : p.il ≤ 1048576) (hlo : p.ol ≤ 1048576) (w : World) (hbi : BytesAt w p.ia p.il p.ic) (hbo : BytesAt w p.oa p.ol p.oc) (hap : ApprAt w p.ap) :
    Calls Try.prog 17 #[.agg #[.string p.ty, .string p.tx, .string p.st, .string p.tn, .string p.tc, .slice p.ia p.il p.ic, .slice p.oa p.ol p.oc, .string p.er, .pointer p.ap]] w
      fun e w' => ∃ a1 c1 a2 c2 q, e = .returned (.agg (PartCells p.ty p.tx p.st p.tn p.tc p.er a1 p.il c1 a2 p.ol c2 q)) ∧ Below w.heap.size w w' := by
  go_enter Try.func17, Try.ntmps17
  go_wp2_with fail
  have hW : Below w.heap.size w ((w.alloc (Obj.cells #[.string p.ty, .string p.tx, .string p.st, .string p.tn, .string p.tc, .slice p.ia p.il p.ic, .slice p.oa p.ol p.oc, .string p.er, .pointer p.ap] 53)).alloc (Obj.cells #[.string ⟨#[]⟩, .string ⟨#[]⟩, .string ⟨#[]⟩, .string ⟨#[]⟩, .string ⟨#[]⟩, .slice none 0 0, .slice none 0 0, .string ⟨#[]⟩, .pointer none, .int .i64 0, .string ⟨#[]⟩, .slice none 0 0, .bool false, .pointer none, .pointer none] 33)) :=
    keep_alloc (keep_alloc (Below.refl _ _) _) _
  have k0 := heap_two w (Obj.cells #[.string p.ty, .string p.tx, .string p.st, .string p.tn, .string p.tc, .slice p.ia p.il p.ic, .slice p.oa p.ol p.oc, .string p.er, .pointer p.ap] 53) (Obj.cells #[.string ⟨#[]⟩, .string ⟨#[]⟩, .string ⟨#[]⟩, .string ⟨#[]⟩, .string ⟨#[]⟩, .slice none 0 0, .slice none 0 0, .string ⟨#[]⟩, .pointer none, .int .i64 0, .string ⟨#[]⟩, .slice none 0 0, .bool false, .pointer none, .pointer none] 33)
  generalize ((w.alloc (Obj.cells #[.string p.ty, .string p.tx, .string p.st, .string p.tn, .string p.tc, .slice p.ia p.il p.ic, .slice p.oa p.ol p.oc, .string p.er, .pointer p.ap] 53)).alloc (Obj.cells #[.string ⟨#[]⟩, .string ⟨#[]⟩, .string ⟨#[]⟩, .string ⟨#[]⟩, .string ⟨#[]⟩, .slice none 0 0, .slice none 0 0, .string ⟨#[]⟩, .pointer none, .int .i64 0, .string ⟨#[]⟩, .slice none 0 0, .bool false, .pointer none, .pointer none] 33)) = W at *
  obtain ⟨k1, k2⟩ := k0
  have m0 : W.cell? ⟨w.heap.size, 0, none⟩ = some (.string p.ty) := by rw [cell_at 0 k1]; rfl
  have m1 : W.cell? ⟨w.heap.size, 1, none⟩ = some (.string p.tx) := by rw [cell_at 1 k1]; rfl
  have m2 : W.cell? ⟨w.heap.size, 2, none⟩ = some (.string p.st) := by rw [cell_at 2 k1]; rfl
  have m3 : W.cell? ⟨w.heap.size, 3, none⟩ = some (.string p.tn) := by rw [cell_at 3 k1]; rfl
  have m4 : W.cell? ⟨w.heap.size, 4, none⟩ = some (.string p.tc) := by rw [cell_at 4 k1]; rfl
  have m5 : W.cell? ⟨w.heap.size, 5, none⟩ = some (.slice p.ia p.il p.ic) := by rw [cell_at 5 k1]; rfl
  have m6 : W.cell? ⟨w.heap.size, 6, none⟩ = some (.slice p.oa p.ol p.oc) := by rw [cell_at 6 k1]; rfl
  have m7 : W.cell? ⟨w.heap.size, 7, none⟩ = some (.string p.er) := by rw [cell_at 7 k1]; rfl
  have K1 : Hid (W.heap[w.heap.size]? = some (.cells #[.string p.ty, .string p.tx, .string p.st, .string p.tn, .string p.tc, .slice p.ia p.il p.ic, .slice p.oa p.ol p.oc, .string p.er, .pointer p.ap] 53 (0, 0))) := k1
  have K2 : Hid (W.heap[w.heap.size + 1]? = some (.cells #[.string ⟨#[]⟩, .string ⟨#[]⟩, .string ⟨#[]⟩, .string ⟨#[]⟩, .string ⟨#[]⟩, .slice none 0 0, .slice none 0 0, .string ⟨#[]⟩, .pointer none, .int .i64 0, .string ⟨#[]⟩, .slice none 0 0, .bool false, .pointer none, .pointer none] 33 (0, 0))) := k2
  have hHW : w.heap.size < W.heap.size := (Array.getElem?_eq_some_iff.1 k1).1
  clear k1 k2
  have n0 : W.drew.cell? ⟨w.heap.size, 0, none⟩ = some (.string p.ty) := m0
  have n1 : W.drew.cell? ⟨w.heap.size, 1, none⟩ = some (.string p.tx) := m1
  have n2 : W.drew.cell? ⟨w.heap.size, 2, none⟩ = some (.string p.st) := m2
  have n3 : W.drew.cell? ⟨w.heap.size, 3, none⟩ = some (.string p.tn) := m3
  have n4 : W.drew.cell? ⟨w.heap.size, 4, none⟩ = some (.string p.tc) := m4
  have n5 : W.drew.cell? ⟨w.heap.size, 5, none⟩ = some (.slice p.ia p.il p.ic) := m5
  have n6 : W.drew.cell? ⟨w.heap.size, 6, none⟩ = some (.slice p.oa p.ol p.oc) := m6
  have n7 : W.drew.cell? ⟨w.heap.size, 7, none⟩ = some (.string p.er) := m7
  go_cut [3] (fun v wc => ∃ P a1 c1 a2 c2, v = .pointer (some ⟨P, 0, none⟩) ∧ W.heap.size ≤ P ∧ wc.heap[P]? = some (.cells (PartCells p.ty p.tx p.st p.tn p.tc p.er a1 p.il c1 a2 p.ol c2 none) 33 (0, 0)) ∧ Below W.heap.size W wc)
  case first =>
    go_region_held3 (fun w' => Below W.heap.size W w' ∧ w'.cell? ⟨w.heap.size, 0, none⟩ = some (.string p.ty) ∧ w'.cell? ⟨w.heap.size, 1, none⟩ = some (.string p.tx) ∧ w'.cell? ⟨w.heap.size, 2, none⟩ = some (.string p.st) ∧ w'.cell? ⟨w.heap.size, 3, none⟩ = some (.string p.tn) ∧ w'.cell? ⟨w.heap.size, 4, none⟩ = some (.string p.tc) ∧ w'.cell? ⟨w.heap.size, 5, none⟩ = some (.slice p.ia p.il p.ic) ∧ w'.cell? ⟨w.heap.size, 6, none⟩ = some (.slice p.oa p.ol p.oc) ∧ w'.cell? ⟨w.heap.size, 7, none⟩ = some (.string p.er))
      ((go_split_ands; refine ⟨?_, ?_, ?_, ?_, ?_, ?_, ?_, ?_, ?_⟩ <;> (try (repeat (with_reducible refine keep_set ?_ hP.lo))) <;> (try (repeat (with_reducible refine cell_set ?_ hHW hP.lo))) <;> first | (first | (with_reducible assumption) | (with_reducible exact (Below.refl _ _).drew) | (with_reducible exact (keep_alloc (Below.refl _ _) _).drew) | (with_reducible exact keep_call (by with_reducible assumption) hb) | (with_reducible exact keep_call (Below.refl _ _).drew hb) | (with_reducible exact keep_call ((keep_alloc (Below.refl _ _) _).drew) hb) | (with_reducible exact keep_alloc (by with_reducible assumption) _) | (with_reducible exact keep_alloc (keep_call (by with_reducible assumption) hb) _)) | (first | (with_reducible assumption) | (with_reducible exact cell_kept hb (Nat.le_refl _) (by with_reducible assumption)) | (with_reducible exact cell_alloc _ (by with_reducible assumption)) | (with_reducible exact cell_kept hb (Nat.le_refl _) (cell_alloc _ (by with_reducible assumption))) | (with_reducible exact cell_alloc _ (cell_kept hb (Nat.le_refl _) (by with_reducible assumption))) | (with_reducible exact cell_alloc_drew _ (by with_reducible assumption)))))
      (first | (go_at_call_of 16 (Value.slice p.ia p.il p.ic); go_split_ands; refine (clone_any _ _ _ hli _ ?_).mono ?_; (exact (hbi.kept hW).kept (by (first | (with_reducible assumption) | (with_reducible exact (Below.refl _ _).drew) | (with_reducible exact (keep_alloc (Below.refl _ _) _).drew) | (with_reducible exact keep_call (by with_reducible assumption) hb) | (with_reducible exact keep_call (Below.refl _ _).drew hb) | (with_reducible exact keep_call ((keep_alloc (Below.refl _ _) _).drew) hb) | (with_reducible exact keep_alloc (by with_reducible assumption) _) | (with_reducible exact keep_alloc (keep_call (by with_reducible assumption) hb) _)))); rintro e w1 ⟨⟨a1, c1, rfl⟩, hb⟩; (first | (refine feed (fresh_call_drew hb) ?_; intro hP; have hPc := hP.cell; have hPf := hP.free) | skip)) | (go_at_call_of 16 (Value.slice p.oa p.ol p.oc); go_split_ands; refine (clone_any _ _ _ hlo _ ?_).mono ?_; (exact (hbo.kept hW).kept (by (first | (with_reducible assumption) | (with_reducible exact (Below.refl _ _).drew) | (with_reducible exact (keep_alloc (Below.refl _ _) _).drew) | (with_reducible exact keep_call (by with_reducible assumption) hb) | (with_reducible exact keep_call (Below.refl _ _).drew hb) | (with_reducible exact keep_call ((keep_alloc (Below.refl _ _) _).drew) hb) | (with_reducible exact keep_alloc (by with_reducible assumption) _) | (with_reducible exact keep_alloc (keep_call (by with_reducible assumption) hb) _)))); rintro e w1 ⟨⟨a2, c2, rfl⟩, hb⟩; (first | (refine feed (carry_call hP hb) ?_; intro hP; have hPc := hP.cell; have hPf := hP.free) | (refine feed (fresh_call (W := W) (keep_call (Below.refl W.heap.size W).drew (by with_reducible assumption)) hb) ?_; intro hP; have hPc := hP.cell; have hPf := hP.free) | skip)))
    all_goals (go_wp2_with fail; go_meet)
    · go_split_ands
      exact ⟨_, a1, c1, a2, c2, rfl, (keep_call (by with_reducible assumption) hb).size, heap_alloc_new _ _, by with_reducible assumption⟩
    · go_split_ands
      exact ⟨_, a1, c1, a2, c2, rfl, hP.lo, fill15 _ _ _ _ _ _ _ _ _ _ _ _ _ _ _ _ _ _ _ _ _ _ _ _ _ _ _ _ _ _ hP.block, by with_reducible assumption⟩
    · go_split_ands
      exact ⟨_, a1, c1, a2, c2, rfl, hP.lo, fill15 _ _ _ _ _ _ _ _ _ _ _ _ _ _ _ _ _ _ _ _ _ _ _ _ _ _ _ _ _ _ hP.block, by with_reducible assumption⟩
  case rest =>
    obtain ⟨P, a1, c1, a2, c2, rfl, hPlo, hPb, hbc⟩ := hcut
    have hRb := (hbc.block (w.heap.size + 1) (Array.getElem?_eq_some_iff.1 K2.out).1).trans K2.out
    have hHb := (hbc.block w.heap.size hHW).trans K1.out
    have hPc := fun j => cell_at j hPb
    have hRc := fun j => cell_at j hRb
    have hRf := fun j => frozen_at j hRb
    have hPf := fun j => frozen_at j hPb
    have h8 : wc.cell? ⟨w.heap.size, 8, none⟩ = some (.pointer p.ap) := by rw [cell_at 8 hHb]; rfl
    have hB : Below w.heap.size w wc := hW.trans (hbc.mono (Nat.le_of_lt hHW))
    have hPR : P ≠ w.heap.size + 1 := by have := (Array.getElem?_eq_some_iff.1 K2.out).1; omega
    have HPb : Hid (wc.heap[P]? = some (.cells (PartCells p.ty p.tx p.st p.tn p.tc p.er a1 p.il c1 a2 p.ol c2 none) 33 (0, 0))) := hPb
    clear n0 n1 n2 n3 n4 n5 n6 n7 m0 m1 m2 m3 m4 m5 m6 m7 hHb hPb
    have HRb : Hid (wc.heap[w.heap.size + 1]? = some (.cells #[.string ⟨#[]⟩, .string ⟨#[]⟩, .string ⟨#[]⟩, .string ⟨#[]⟩, .string ⟨#[]⟩, .slice none 0 0, .slice none 0 0, .string ⟨#[]⟩, .pointer none, .int .i64 0, .string ⟨#[]⟩, .slice none 0 0, .bool false, .pointer none, .pointer none] 33 (0, 0))) := hRb
    clear hRb
    unfold PartCells at hPc
    rcases hap with hap | ⟨pb, po, pi, pr, pq, hap, d0, d1, d2, _, _, hq⟩
    · rw [hap] at h8
      go_wp2
      refine fin17 _ _ _ (w.heap.size + 1) _ _ _ _ _ _ _ _ _ _ _ _ _ _ _ rfl rfl (fill15 _ _ _ _ _ _ _ _ _ _ _ _ _ _ _ _ _ _ _ _ _ _ _ _ _ _ _ _ _ _ HRb.out) ⟨a1, c1, a2, c2, none, rfl, ?_⟩
      repeat (refine below_set ?_ (Nat.le_succ _))
      exact hB
    · rw [hap] at h8
      have e0 := cell_kept hB (Nat.le_refl _) d0
      have e1 := cell_kept hB (Nat.le_refl _) d1
      have e2 := cell_kept hB (Nat.le_refl _) d2
      go_wp2
      go_region
      have x : Below wc.heap.size wc ((wc.alloc (Obj.cells #[.string pi, .pointer none, .string pr] 67)).drew) := ((Below.refl _ _).alloc (Nat.le_refl _) _).drew
      have hAb : ((wc.alloc (Obj.cells #[.string pi, .pointer none, .string pr] 67)).drew).heap[wc.heap.size]? = some (.cells #[.string pi, .pointer none, .string pr] 67 (0, 0)) := heap_alloc_new wc _
      have hPl := (Array.getElem?_eq_some_iff.1 HPb.out).1
      have hRl := (Array.getElem?_eq_some_iff.1 HRb.out).1
      have hPb2 := (x.block P hPl).trans HPb.out
      have hRb2 := (x.block _ hRl).trans HRb.out
      have hB2 : Below w.heap.size w ((wc.alloc (Obj.cells #[.string pi, .pointer none, .string pr] 67)).drew) := (keep_alloc hB _).drew
      have g8 := cell_kept x (Nat.le_refl _) h8
      have g1 := cell_kept x (Nat.le_refl _) e1
      have g3 : ∀ (qb qo : Nat) (v : Bool), wc.cell? ⟨qb, qo, none⟩ = some (.bool v) → ((wc.alloc (Obj.cells #[.string pi, .pointer none, .string pr] 67)).drew).cell? ⟨qb, qo, none⟩ = some (.bool v) := fun qb qo v h => cell_kept x (Nat.le_refl _) h
      have hAP : P ≠ wc.heap.size := by omega
      have hAR : w.heap.size + 1 ≠ wc.heap.size := by omega
      have hHA : w.heap.size ≤ wc.heap.size := hB.size
      have hwP : w.heap.size ≤ P := by omega
      have e3 : ∀ (qb qo : Nat) (v : Bool), w.cell? ⟨qb, qo, none⟩ = some (.bool v) → wc.cell? ⟨qb, qo, none⟩ = some (.bool v) := fun qb qo v h => cell_kept hB (Nat.le_refl _) h
      have e4 : ∀ (qb qo : Nat) (v : Bool), w.cell? ⟨qb, qo, none⟩ = some (.bool v) → ((wc.alloc (Obj.cells #[.string pi, .pointer none, .string pr] 67)).drew).cell? ⟨qb, qo, none⟩ = some (.bool v) := fun qb qo v h => g3 qb qo v (e3 qb qo v h)
      clear g3 e3 x hPc hRc hRf hPf HPb HRb h8 e0 e1 e2 hPl hRl hB hbc
      generalize (wc.alloc (Obj.cells #[.string pi, .pointer none, .string pr] 67)).drew = wd at *
      generalize wc.heap.size = A at *
      have hPc := fun j => cell_at j hPb2
      have hRc := fun j => cell_at j hRb2
      have hAc := fun j => cell_at j hAb
      have hRf := fun j => frozen_at j hRb2
      have hPf := fun j => frozen_at j hPb2
      have hAf := fun j => frozen_at j hAb
      have HRb : Hid (wd.heap[w.heap.size + 1]? = some (.cells #[.string ⟨#[]⟩, .string ⟨#[]⟩, .string ⟨#[]⟩, .string ⟨#[]⟩, .string ⟨#[]⟩, .slice none 0 0, .slice none 0 0, .string ⟨#[]⟩, .pointer none, .int .i64 0, .string ⟨#[]⟩, .slice none 0 0, .bool false, .pointer none, .pointer none] 33 (0, 0))) := hRb2
      unfold PartCells at hPc
      have hPd : P < wd.heap.size := (Array.getElem?_eq_some_iff.1 hPb2).1
      have hRd : w.heap.size + 1 < wd.heap.size := (Array.getElem?_eq_some_iff.1 hRb2).1
      have hAd : A < wd.heap.size := (Array.getElem?_eq_some_iff.1 hAb).1
      clear hPb2 hRb2 hAb
      rcases hq with hq | ⟨qb, qo, qv, hq, d3⟩
      · rw [hq] at g1
        go_wp2
        refine fin17 _ _ _ (w.heap.size + 1) _ _ _ _ _ _ _ _ _ _ _ _ _ _ _ rfl rfl (fill15 _ _ _ _ _ _ _ _ _ _ _ _ _ _ _ _ _ _ _ _ _ _ _ _ _ _ _ _ _ _ ((heap_set_ne hPR).trans HRb.out)) ⟨a1, c1, a2, c2, _, rfl, ?_⟩
        repeat (refine below_set ?_ (Nat.le_succ _))
        exact below_set hB2 hwP
      · rw [hq] at g1
        have g3 := e4 qb qo qv d3
        go_wp2
        refine fin17 _ _ _ (w.heap.size + 1) _ _ _ _ _ _ _ _ _ _ _ _ _ _ _ rfl rfl (heap_alloc_keep (fill15 _ _ _ _ _ _ _ _ _ _ _ _ _ _ _ _ _ _ _ _ _ _ _ _ _ _ _ _ _ _ ((heap_set_ne hPR).trans ((heap_set_ne hAR.symm).trans HRb.out)))) ⟨a1, c1, a2, c2, _, rfl, ?_⟩
        refine keep_alloc ?_ _
        repeat (refine below_set ?_ (Nat.le_succ _))
        exact below_set (below_set hB2 hHA) hwP
end Go.Proofs.Qxb6616796a
