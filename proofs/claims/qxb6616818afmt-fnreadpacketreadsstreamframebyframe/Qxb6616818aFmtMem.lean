/-
  WHAT THE WALKS ARE TOLD OF THE MEMORY: rows of cells, the blocks that a call may turn, a bytes.Buffer, a bufio.Reader. No Go function in sight.
-/
import Derived.WalkKit
import Derived.WalkLawsBesides
import Derived.WalkSmall
import Derived.Laws.CopyRow
namespace Go.Proofs.Qxb6616818aFmt
open Go.RowKit

/-- bytes as cells -/
def bv (xs : List Nat) : List Value := xs.map fun n : Nat => .int .u8 (n : Int)
theorem bv_length (xs : List Nat) : (bv xs).length = xs.length := by simp [bv]
theorem bv_append (xs ys : List Nat) : bv (xs ++ ys) = bv xs ++ bv ys := by simp [bv]
theorem bv_take (xs : List Nat) (n : Nat) : bv (xs.take n) = (bv xs).take n := by simp [bv, List.map_take]
theorem bv_drop (xs : List Nat) (n : Nat) : bv (xs.drop n) = (bv xs).drop n := by simp [bv, List.map_drop]
theorem bv_one (xs : List Nat) : ∀ v ∈ bv xs, v.oneCell' = true := by
  intro v hv
  simp only [bv, List.mem_map] at hv
  obtain ⟨n, _, rfl⟩ := hv
  rfl
theorem bv_at {xs : List Nat} {i : Nat} (h : i < xs.length) : (bv xs)[i]? = some (.int .u8 (xs[i] : Int)) := by
  simp [bv, h]

/-- block g holds just these cells, none of them frozen -/
def Row (w : World) (g : Nat) (t : TypeId) (cs : List Value) : Prop := w.heap[g]? = some (.cells cs.toArray t (0, 0))

theorem Row.cell {w : World} {g : Nat} {t : TypeId} {cs : List Value} (h : Row w g t cs) (i : Nat) : w.cell? ⟨g, i, none⟩ = cs[i]? := by
  unfold Row at h
  simp [World.cell?, h]
theorem Row.free {w : World} {g : Nat} {t : TypeId} {cs : List Value} (h : Row w g t cs) (i : Nat) : w.frozen? ⟨g, i, none⟩ = false := by
  unfold Row at h
  simp [World.frozen?, h]
theorem Row.lt {w : World} {g : Nat} {t : TypeId} {cs : List Value} (h : Row w g t cs) : g < w.heap.size := (Array.getElem?_eq_some_iff.1 h).1
theorem Row.set {w : World} {g : Nat} {t : TypeId} {cs : List Value} (h : Row w g t cs) (i : Nat) (v : Value) : Row (w.setCell ⟨g, i, none⟩ v) g t (cs.set i v) := by
  unfold Row at *
  rw [setCell_eq_setRow w g i _ t (0, 0) v h, setRow_heap w g _ _ t (0, 0) h]
  simp
theorem Row.setOther {w : World} {g : Nat} {t : TypeId} {cs : List Value} (h : Row w g t cs) {a : Addr} (hne : g ≠ a.block) (v : Value) : Row (w.setCell a v) g t cs := by
  unfold Row at *
  rw [Below.heap_setCell w a v g hne]; exact h
theorem Row.row {w : World} {g : Nat} {t : TypeId} {cs : List Value} (h : Row w g t cs) (ds : List Value) : Row (w.setRow g ds.toArray) g t ds := setRow_heap w g _ _ t (0, 0) h
theorem Row.rowOther {w : World} {g k : Nat} {t : TypeId} {cs : List Value} (h : Row w g t cs) (hne : g ≠ k) (ds : Array Value) : Row (w.setRow k ds) g t cs := by
  unfold Row at *
  rw [setRow_other w k g ds hne]; exact h
theorem Row.alloc {w : World} {g : Nat} {t : TypeId} {cs : List Value} (h : Row w g t cs) (o : Obj) : Row (w.alloc o) g t cs := by
  have := h.lt
  unfold Row at *
  rw [Below.heap_alloc w o g this]; exact h
theorem Row.drew {w : World} {g : Nat} {t : TypeId} {cs : List Value} (h : Row w g t cs) : Row w.drew g t cs := h
theorem Row.drewN {w : World} {g : Nat} {t : TypeId} {cs : List Value} (h : Row w g t cs) (n : Nat) : Row (w.drewN n) g t cs := h
theorem Row.new (w : World) (cs : List Value) (t : TypeId) : Row (w.alloc (.cells cs.toArray t)) w.heap.size t cs := heap_alloc_new w _
theorem Row.newA (w : World) (cs : Array Value) (t : TypeId) : Row (w.alloc (.cells cs t)) w.heap.size t cs.toList := by
  have := heap_alloc_new w (.cells cs t)
  unfold Row
  simpa using this
theorem Row.ne {w : World} {g g' : Nat} {t t' : TypeId} {cs cs' : List Value} (h : Row w g t cs) (h' : Row w g' t' cs') (ht : t ≠ t') : g ≠ g' := by
  rintro rfl
  unfold Row at h h'
  rw [h] at h'
  simp at h'
  exact ht h'.2

/-- cells xs written over cur from place o on -/
def put (cur : List Value) (o : Nat) (xs : List Value) : List Value := cur.take o ++ xs ++ cur.drop (o + xs.length)
theorem put_length (cur : List Value) (o : Nat) (xs : List Value) (h : o + xs.length ≤ cur.length) : (put cur o xs).length = cur.length := by
  unfold put
  simp only [List.length_append, List.length_take, List.length_drop]; omega
theorem put_nil (cur : List Value) (o : Nat) : put cur o [] = cur := by simp [put]
theorem put_put (cur : List Value) (o : Nat) (xs ys : List Value) (h : o + xs.length + ys.length ≤ cur.length) : put (put cur o xs) (o + xs.length) ys = put cur o (xs ++ ys) := by
  unfold put
  have l1 : (cur.take o ++ xs).length = o + xs.length := by simp only [List.length_append, List.length_take]; omega
  rw [List.take_left' l1, List.length_append, show o + xs.length + ys.length = (cur.take o ++ xs).length + ys.length by omega, List.drop_length_add_append, List.drop_drop]
  simp only [List.append_assoc]
  rw [Nat.add_assoc]
theorem put_take (cur : List Value) (o : Nat) (xs : List Value) (h : o ≤ cur.length) : (put cur o xs).take (o + xs.length) = cur.take o ++ xs := by
  unfold put
  exact List.take_left' (by simp only [List.length_append, List.length_take]; omega)
theorem put_takeAt (cur : List Value) (o : Nat) (xs : List Value) (h : o ≤ cur.length) : (put cur o xs).take o = cur.take o := by
  unfold put
  rw [List.append_assoc]
  exact List.take_left' (by simp only [List.length_take]; omega)

/-- the world w' is w but for the blocks of S, new blocks and draws -/
structure Keep (S : Nat → Prop) (w w' : World) : Prop where
  os : w'.os = w.os
  tape : w'.tape = w.tape
  output : w'.output = w.output
  size : w.heap.size ≤ w'.heap.size
  block : ∀ k, k < w.heap.size → ¬ S k → w'.heap[k]? = w.heap[k]?
theorem Keep.refl (S : Nat → Prop) (w : World) : Keep S w w := ⟨rfl, rfl, rfl, Nat.le_refl _, fun _ _ _ => rfl⟩
theorem Keep.trans {S : Nat → Prop} {a b c : World} (h : Keep S a b) (k : Keep S b c) : Keep S a c :=
  ⟨k.os.trans h.os, k.tape.trans h.tape, k.output.trans h.output, Nat.le_trans h.size k.size, fun i hi hs => (k.block i (Nat.lt_of_lt_of_le hi h.size) hs).trans (h.block i hi hs)⟩
theorem Keep.mono {S T : Nat → Prop} {a b : World} (h : Keep S a b) (hs : ∀ k, k < a.heap.size → S k → T k) : Keep T a b := ⟨h.os, h.tape, h.output, h.size, fun k hk hn => h.block k hk (fun x => hn (hs k hk x))⟩
theorem Keep.drew {S : Nat → Prop} {a w : World} (h : Keep S a w) : Keep S a w.drew := ⟨h.os, h.tape, h.output, h.size, h.block⟩
theorem Keep.drewN {S : Nat → Prop} {a w : World} (h : Keep S a w) (n : Nat) : Keep S a (w.drewN n) := ⟨h.os, h.tape, h.output, h.size, h.block⟩
theorem Keep.alloc {S : Nat → Prop} {a w : World} (h : Keep S a w) (o : Obj) : Keep S a (w.alloc o) :=
  h.trans ⟨rfl, rfl, rfl, by simp, fun k hk _ => Below.heap_alloc _ _ _ hk⟩
theorem Keep.setCell {S : Nat → Prop} {a w : World} (h : Keep S a w) {p : Addr} (hp : p.block < a.heap.size → S p.block) (u : Value) : Keep S a (w.setCell p u) :=
  ⟨h.os, h.tape, h.output, by simpa [World.setCell] using h.size, fun k hk hs => by rw [Below.heap_setCell _ _ _ _ (fun e => hs (by subst e; exact hp hk))]; exact h.block k hk hs⟩
theorem Keep.setRow {S : Nat → Prop} {a w : World} (h : Keep S a w) {g : Nat} (hp : g < a.heap.size → S g) (ds : Array Value) : Keep S a (w.setRow g ds) :=
  ⟨h.os, h.tape, h.output, by simpa using h.size, fun k hk hs => by rw [setRow_other _ _ _ _ (fun e => hs (by subst e; exact hp hk))]; exact h.block k hk hs⟩
theorem Keep.row {S : Nat → Prop} {w w' : World} (h : Keep S w w') {g : Nat} {t : TypeId} {cs : List Value} (hr : Row w g t cs) (hg : ¬ S g) : Row w' g t cs := (h.block g hr.lt hg).trans hr
theorem Keep.cell {S : Nat → Prop} {w w' : World} (h : Keep S w w') {p : Addr} {v : Value} (hc : w.cell? p = some v) (hg : ¬ S p.block) : w'.cell? p = some v := by
  rw [World.cell?_of_block (w := w) (h.block p.block (World.block_lt_of_cell? w p hc) hg)]; exact hc
theorem Keep.below {S : Nat → Prop} {B : Nat} {w w' : World} (h : Keep S w w') (hB : B ≤ w.heap.size) (hS : ∀ k, S k → B ≤ k) : Below B w w' :=
  ⟨h.os, h.tape, h.output, h.size, fun k hk => h.block k (by omega) (fun x => by have := hS k x; omega)⟩

/-- a bytes.Buffer in block B over the row of bytes in block G, or over nil: what it still holds -/
def Buf (w : World) (B G : Nat) (rest : List Nat) : Prop :=
  ∃ (a : Option Addr) (l c off : Nat) (lr : Int), Row w B 77 [.slice a l c, .int .i64 (off : Int), .int .i8 lr] ∧ off ≤ l ∧ l ≤ c ∧ c ≤ 1048576 ∧
    ((a = none ∧ l = 0 ∧ c = 0 ∧ rest = []) ∨ ∃ cs, a = some ⟨G, 0, none⟩ ∧ B ≠ G ∧ Row w G 5 cs ∧ cs.length = c ∧ (cs.take l).drop off = bv rest)

/-- a bufio.Reader in block R, its room in block Q, over the bytes.Buffer in block B: what is still to be read -/
def Rdr (w : World) (R Q B G : Nat) (S : List Nat) : Prop :=
  ∃ (r v : Nat) (lb lr : Int) (cur : List Value) (buf rest : List Nat),
    Row w R 113 [.slice (some ⟨Q, 0, none⟩) 4096 4096, .iface 25 (.pointer (some ⟨B, 0, none⟩)), .int .i64 (r : Int), .int .i64 (v : Int), .nilIface, .int .i64 lb, .int .i64 lr] ∧
    Row w Q 5 cur ∧ cur.length = 4096 ∧ r ≤ v ∧ v ≤ 4096 ∧ (cur.take v).drop r = bv buf ∧ Buf w B G rest ∧ S = buf ++ rest

/-- the blocks lie apart -/
def Apart (R Q B G : Nat) : Prop := R ≠ Q ∧ R ≠ B ∧ Q ≠ B ∧ R ≠ G ∧ Q ≠ G

theorem Buf.keep {S : Nat → Prop} {w w' : World} {B G : Nat} {rest : List Nat} (h : Buf w B G rest) (k : Keep S w w') (hB : ¬ S B) (hG : ¬ S G) : Buf w' B G rest := by
  obtain ⟨a, l, c, off, lr, hr, h1, h2, h3, h4⟩ := h
  refine ⟨a, l, c, off, lr, k.row hr hB, h1, h2, h3, ?_⟩
  rcases h4 with h4 | ⟨cs, h5, h6, h7, h8, h9⟩
  · exact .inl h4
  · exact .inr ⟨cs, h5, h6, k.row h7 hG, h8, h9⟩
theorem Rdr.keep {S : Nat → Prop} {w w' : World} {R Q B G : Nat} {xs : List Nat} (h : Rdr w R Q B G xs) (k : Keep S w w') (hR : ¬ S R) (hQ : ¬ S Q) (hB : ¬ S B) (hG : ¬ S G) : Rdr w' R Q B G xs := by
  obtain ⟨r, v, lb, lr, cur, buf, rest, h1, h2, h3, h4, h5, h6, h7, h8⟩ := h
  exact ⟨r, v, lb, lr, cur, buf, rest, k.row h1 hR, k.row h2 hQ, h3, h4, h5, h6, h7.keep k hB hG, h8⟩
end Go.Proofs.Qxb6616818aFmt
