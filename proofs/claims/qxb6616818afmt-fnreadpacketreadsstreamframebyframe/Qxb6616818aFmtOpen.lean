/-
  THE ARGUMENT AND THE LISTED VARIABLES, OPENED: from their reading as data to what the walks are told of them.
-/
import Derived.Test.Qxb6616818aFmtRows
import Derived.Test.Qxb6616818aFmtLaw
import Derived.ChangeSame
import Derived.ChangeVars
import Derived.ChangeArms
import Derived.DataReads
import Derived.RowKit
import Derived.RowKitTokens
import Derived.LaidLaws
import Derived.Stop.ErrReads
import Derived.Deep.Slices
namespace Go.Proofs.Qxb6616818aFmt
open Go.RowKit Go.ChangeShapes Go.WideShapes

section
variable {H : Type} {enc : TypeId × Value → H} {w : World} {base : Nat} {spare : Nat → Bool} {held : Bool}
theorem cells5 : Tryf.prog.cellsOf 5 = 1 := by kernel_rfl
theorem cells9 : Tryf.prog.cellsOf 9 = 1 := by kernel_rfl
theorem cells101 : Tryf.prog.cellsOf 101 = 1 := by kernel_rfl

theorem reads_of {fuel : Nat} {c : Value} {x : DataW H × List MemPlace} (h : DataW.trod enc Tryf.prog w base spare held fuel 24 [c] = some x) :
    ∃ a n k xs, c = .slice a n k ∧ n ≤ k ∧ k ≤ maxLen ∧ Reads w a n xs ∧ (a = none → n = 0 ∧ k = 0) := by
  rcases open_ints Tryf.underlying24 Tryf.underlying5 cells5 h with ⟨h1, _⟩ | ⟨a, len, cap, zs, h1, _, hl, hm, hz, _, hc, hwf⟩
  · simp at h1
    exact ⟨none, 0, 0, [], h1, by omega, by omega, ⟨rfl, by simp, .inl rfl⟩, fun _ => ⟨rfl, rfl⟩⟩
  · simp at h1
    have hzl : len ≤ zs.length := by rw [hz]; split <;> omega
    have hb : ∀ z ∈ zs, 0 ≤ z ∧ z < 256 := fun z hm => by
      have := hwf z hm
      simp [Lit.wf, IntKind.min, IntKind.max, IntKind.signed, IntKind.bits] at this
      omega
    refine ⟨some a, len, cap, (zs.take len).map Int.toNat, h1, hl, hm, ⟨by simp; omega, ?_, ?_⟩, fun e => by cases e⟩
    · intro y hy
      simp only [List.mem_map] at hy
      obtain ⟨z, hz1, rfl⟩ := hy
      have := hb z (List.mem_of_mem_take hz1)
      omega
    · by_cases h0 : len = 0
      · exact .inl h0
      · right
        obtain ⟨ab, ao, az⟩ := a
        have hs : az = none := by
          have := World.cell?_spot (hc 0 (by omega))
          simpa [Addr.add] using this
        subst hs
        refine ⟨ab, ao, rfl, fun j hj => ?_⟩
        have hjl : j < len := by simp at hj; omega
        have e := hc j (by omega)
        have ea : (⟨ab, ao, none⟩ : Addr).add j = ⟨ab, ao + j, none⟩ := by unfold Addr.add; split <;> simp_all
        rw [ea, List.getD_eq_getElem?_getD, List.getElem?_eq_getElem (by omega)] at e
        have hz0 := hb _ (List.getElem_mem (l := zs) (n := j) (by omega))
        rw [e]
        simp only [List.getElem_map, List.getElem_take, Option.getD_some]
        rw [Int.toNat_of_nonneg hz0.1]
end

/-! THE LISTED VARIABLES -/
/-- the specification's two variables, by name -/
def nmS : String := match Rows.fnReadPacketReadsStreamFrameByFrameSpec.vars with
  | n :: _ => n
  | [] => ""
def nmP : String := match Rows.fnReadPacketReadsStreamFrameByFrameSpec.vars with
  | _ :: n :: _ => n
  | _ => ""
theorem gSB : Tryf.prog.globalNamed "io.ErrShortBuffer" = some 6 := by kernel_rfl
theorem gE : Tryf.prog.globalNamed "io.EOF" = some 1 := by kernel_rfl
theorem gU : Tryf.prog.globalNamed "io.ErrUnexpectedEOF" = some 2 := by kernel_rfl
theorem gP : Tryf.prog.globalNamed nmP = some 4 := by kernel_rfl
theorem gS : Tryf.prog.globalNamed nmS = some 3 := by kernel_rfl
theorem tSB : (Tryf.prog.globals[6]?).map (·.type) = some 30 := by kernel_rfl
theorem tE : (Tryf.prog.globals[1]?).map (·.type) = some 30 := by kernel_rfl
theorem tU : (Tryf.prog.globals[2]?).map (·.type) = some 30 := by kernel_rfl
theorem tP : (Tryf.prog.globals[4]?).map (·.type) = some 30 := by kernel_rfl
theorem tS : (Tryf.prog.globals[3]?).map (·.type) = some 30 := by kernel_rfl
theorem row99 (u : TypeId) (h : Tryf.prog.typeName? 3 u = some ptrName) : u = 99 :=
  typeName_ptr_named (nm := "errors.errorString") (by kernel_rfl) (by kernel_rfl) (by decide) u (h.trans (congrArg some (by decide)))

set_option maxRecDepth 100000 in
set_option maxHeartbeats 1000000 in
theorem sentinels_of_laid {W : World} (h : laidMet Tryf.prog Rows.fnReadPacketReadsStreamFrameByFrameRow.laid W) :
    ∃ (aE aU aS aP : Addr), Sents W W.heap.size aE aU aS aP ∧
      W.var? Tryf.prog nmS = some #[.iface 99 (.pointer (some aS))] ∧ W.var? Tryf.prog nmP = some #[.iface 99 (.pointer (some aP))] := by
  obtain ⟨ps, ⟨g0, t0, cs0, f0, p0, q0, hg0, ht0, hv0, hd0, ⟨g1, t1, cs1, f1, p1, q1, hg1, ht1, hv1, hd1, ⟨g2, t2, cs2, f2, p2, q2, hg2, ht2, hv2, hd2, ⟨g3, t3, cs3, f3, p3, q3, hg3, ht3, hv3, hd3, ⟨g4, t4, cs4, f4, p4, q4, hg4, ht4, hv4, hd4, hq4, e4⟩, e3⟩, e2⟩, e1⟩, e0⟩, hnd, hrows⟩ := h
  obtain rfl := Option.some.inj (gSB.symm.trans hg0)
  obtain rfl := Option.some.inj (gE.symm.trans hg1)
  obtain rfl := Option.some.inj (gU.symm.trans hg2)
  obtain rfl := Option.some.inj (gP.symm.trans hg3)
  obtain rfl := Option.some.inj (gS.symm.trans hg4)
  obtain rfl := Option.some.inj (tSB.symm.trans ht0)
  obtain rfl := Option.some.inj (tE.symm.trans ht1)
  obtain rfl := Option.some.inj (tU.symm.trans ht2)
  obtain rfl := Option.some.inj (tP.symm.trans ht3)
  obtain rfl := Option.some.inj (tS.symm.trans ht4)
  have hq4' : q4 = [] := hq4
  subst hq4'
  subst e4
  subst e3
  subst e2
  subst e1
  subst e0
  obtain ⟨l1⟩ := cs1
  obtain ⟨l2⟩ := cs2
  obtain ⟨l3⟩ := cs3
  obtain ⟨l4⟩ := cs4
  have ok1 : ∀ u v, l1 = [.iface u v] → Value.okWide Tryf.prog W .any 0 u v := fun u v e => by
    subst e
    exact (hrows 1 0 (by simp [MemPlace.row])).2 u v (by simpa using World.var?_cell hg1 hv1 0)
  have ok2 : ∀ u v, l2 = [.iface u v] → Value.okWide Tryf.prog W .any 0 u v := fun u v e => by
    subst e
    exact (hrows 2 0 (by simp [MemPlace.row])).2 u v (by simpa using World.var?_cell hg2 hv2 0)
  have ok3 : ∀ u v, l3 = [.iface u v] → Value.okWide Tryf.prog W .any 0 u v := fun u v e => by
    subst e
    exact (hrows 4 0 (by simp [MemPlace.row])).2 u v (by simpa using World.var?_cell hg3 hv3 0)
  have ok4 : ∀ u v, l4 = [.iface u v] → Value.okWide Tryf.prog W .any 0 u v := fun u v e => by
    subst e
    exact (hrows 3 0 (by simp [MemPlace.row])).2 u v (by simpa using World.var?_cell hg4 hv4 0)
  obtain ⟨a1, s1, rfl, hc1, hs1, hz1, rfl⟩ := errorString_of_trod Tryf.underlying30 row99 Tryf.underlying99 Tryf.underlying101 rfl rfl Tryf.underlying9 cells101 cells9 hd1 ok1
  obtain ⟨a2, s2, rfl, hc2, hs2, hz2, rfl⟩ := errorString_of_trod Tryf.underlying30 row99 Tryf.underlying99 Tryf.underlying101 rfl rfl Tryf.underlying9 cells101 cells9 hd2 ok2
  obtain ⟨a3, s3, rfl, hc3, hs3, hz3, rfl⟩ := errorString_of_trod Tryf.underlying30 row99 Tryf.underlying99 Tryf.underlying101 rfl rfl Tryf.underlying9 cells101 cells9 hd3 ok3
  obtain ⟨a4, s4, rfl, hc4, hs4, hz4, rfl⟩ := errorString_of_trod Tryf.underlying30 row99 Tryf.underlying99 Tryf.underlying101 rfl rfl Tryf.underlying9 cells101 cells9 hd4 ok4
  obtain ⟨c1, t1, hb1⟩ := (hrows a1.block a1.off (by simp [MemPlace.row])).1
  obtain ⟨c2, t2, hb2⟩ := (hrows a2.block a2.off (by simp [MemPlace.row])).1
  have h6 : 6 < W.heap.size := by
    rcases Nat.lt_or_ge 6 W.heap.size with h | h
    · exact h
    · unfold World.var? at hv0
      simp [gSB, Array.getElem?_eq_none h] at hv0
  refine ⟨a1, a2, a4, a3, ⟨h6, by simpa using World.var?_cell hg1 hv1 0, by simpa using World.var?_cell hg2 hv2 0, by simpa using World.var?_cell hg4 hv4 0, by simpa using World.var?_cell hg3 hv3 0, ⟨_, hc1⟩, ⟨_, hc2⟩, ⟨_, hc4⟩, ?_, ⟨c1, t1, hb1⟩, ⟨c2, t2, hb2⟩, World.block_lt_of_cell? W _ hc1, World.block_lt_of_cell? W _ hc2, World.block_lt_of_cell? W _ hc4⟩, hv4, hv3⟩
  rintro rfl
  rw [hc1] at hc2
  cases hc2
  rw [hs1] at hs2
  cases hs2

/-- the two variables of the specification, read as tokens -/
theorem vars_read {H : Type} (enc : TypeId × Value → H) {W : World} {x0 x1 : Value} (h0 : W.var? Tryf.prog nmS = some #[x0]) (h1 : W.var? Tryf.prog nmP = some #[x1]) (i0 : IsIface x0) (i1 : IsIface x1) (sp : Nat → Bool) :
    DataW.TrodVars enc Tryf.prog W sp [nmS, nmP] [tok enc x0, tok enc x1] [.cell 3 0, .cell 4 0] :=
  ⟨3, 30, #[x0], 1, [], [.cell 4 0], gS, tS, h0, trod_held Tryf.underlying30 i0 0, ⟨4, 30, #[x1], 1, [], [], gP, tP, h1, trod_held Tryf.underlying30 i1 0, rfl, rfl⟩, rfl⟩

theorem var_keep {S : Nat → Prop} {w w' : World} (k : Keep S w w') {n : String} {g : Nat} {cs : Array Value} (hg : Tryf.prog.globalNamed n = some g) (h : w.var? Tryf.prog n = some cs) (hS : ¬ S g) : w'.var? Tryf.prog n = some cs := by
  unfold World.var? at h ⊢
  simp only [hg, Option.bind_some] at h ⊢
  have hlt : g < w.heap.size := by
    rcases Nat.lt_or_ge g w.heap.size with h' | h'
    · exact h'
    · simp [Array.getElem?_eq_none h'] at h
  rw [k.block g hlt hS]
  exact h
end Go.Proofs.Qxb6616818aFmt
