/-
  THE ROW of 'FnReadPacketReadsStreamFrameByFrame', as far as 'ReturnsInTold', out of the walk in Qxb6616818aFmtLaw.
-/
import Derived.Test.Qxb6616818aFmtOpen
import Derived.ProofKit
import Derived.OpenShut
import Derived.ChangeOld
import Derived.Below
import Derived.Stop.JoinedAt
import Derived.Stop.JoinedTold
namespace Go.Proofs.Qxb6616818aFmt
open Go.ChangeShapes Go.WideShapes Go.ChangeAt Go.RowKit
open Go.Extern.Stop Go.Stop Go.Extern

theorem own : ownKnob Tryf.prog.godebug = none := by kernel_rfl
theorem laidOut : laidOutB Tryf.prog = true := by kernel_rfl

/-- where the new blocks begin -/
def low (P : Program) : Nat := (World.holding P default ⟨#[], #[], []⟩).heap.size

/-- the settled world with five blocks more, an errors.errorString each; the five listed variables point to them -/
def laidWorld (P : Program) (os : Os) : World :=
  let w0 := World.holding P os ⟨#[.cells #[.string ⟨#[115, 104, 111, 114, 116, 32, 98, 117, 102, 102, 101, 114]⟩] 101, .cells #[.string ⟨#[69, 79, 70]⟩] 101, .cells #[.string ⟨#[117, 110, 101, 120, 112, 101, 99, 116, 101, 100, 32, 69, 79, 70]⟩] 101,
    .cells #[.string ⟨#[112, 97, 99, 107, 101, 116, 32, 116, 111, 111, 32, 108, 97, 114, 103, 101]⟩] 101, .cells #[.string ⟨#[112, 97, 99, 107, 101, 116, 32, 111, 117, 116, 32, 111, 102, 32, 115, 101, 113, 117, 101, 110, 99, 101]⟩] 101], #[], []⟩
  let put (h : Array Obj) (g n : Nat) : Array Obj := h.modify g fun
    | .cells _ t frozen => .cells #[.iface 99 (.pointer (some ⟨n, 0, none⟩))] t frozen
    | o => o
  { w0 with heap := put (put (put (put (put w0.heap 6 (low P)) 1 (low P + 1)) 2 (low P + 2)) 4 (low P + 3)) 3 (low P + 4) }

set_option maxRecDepth 1000000 in
theorem laidWorld_met (os : Os) (args : Array Value) : laidMet Tryf.prog Rows.fnReadPacketReadsStreamFrameByFrameRow.laid ((laidWorld Tryf.prog os).forCall (fun _ _ => 0) ⟨#[], args, []⟩).memory :=
  laidMet_of_run (ps := [.cell 6 0, .cell (low Tryf.prog) 0, .cell 1 0, .cell (low Tryf.prog + 1) 0, .cell 2 0, .cell (low Tryf.prog + 2) 0, .cell 4 0, .cell (low Tryf.prog + 3) 0, .cell 3 0, .cell (low Tryf.prog + 4) 0]) 8 (by kernel_rfl) (by kernel_rfl) (by kernel_rfl)

set_option maxRecDepth 1000000 in
set_option maxHeartbeats 4000000 in
theorem lifted (os : Os) (started : os.Started) (H : Type) (enc : TypeId × Value → H) :
    ReturnsInTold none {} Tryf.checked os 4 .any Input.okWide ((OpenSpec.ofChange Rows.fnReadPacketReadsStreamFrameByFrameSpec).preRow enc Tryf.prog Tryf.f4 Rows.fnReadPacketReadsStreamFrameByFrameRow.domain false Rows.fnReadPacketReadsStreamFrameByFrameRow.laid)
      (fun F => ((OpenSpec.ofChange Rows.fnReadPacketReadsStreamFrameByFrameSpec).at F).post enc Tryf.prog Tryf.f4 false true false false) (aloneAtReturn Tryf.prog) nothingAlways := by
  refine returnsInTold_of_row (C := Tryf.checked) (s := OpenSpec.ofChange Rows.fnReadPacketReadsStreamFrameByFrameSpec) (by kernel_rfl) own started (by kernel_rfl) Tryf.func4
    (OpenSpec.witness_stopped_at (enc := enc) (C := Tryf.checked) false (laidWorld Tryf.prog os) #[.slice none 0 0, .int .i64 0] rfl (by kernel_rfl) (by kernel_rfl) (by kernel_rfl)
      (OpenSpec.preRow_of_B rfl 8 (by kernel_rfl) (by kernel_rfl) (laidWorld_met os _))) ?_
  intro F W base args ds gs before _ hF hval0 hW _ _ _ hL _
  have hval : ∀ (j : Nat) t v, Tryf.f4.params[j]? = some t → args[j]? = some v → Value.okWide Tryf.prog W .any base t v := hval0
  have hW' := hW
  obtain ⟨p, q, hA0, hV0, rfl, hfz, hnd⟩ := hW
  have hA : DataW.TrodAll enc Tryf.prog W 0 (fun _ => true) true Tryf.f4.params.toList args.toList ds p := hA0
  have hV : DataW.TrodVars enc Tryf.prog W (fun _ => true) [nmS, nmP] gs q := hV0
  rw [Tryf.params4] at hA hval
  obtain ⟨v0, vs0, d0, ds0, p0, q0, hargs, rfl, rfl, h0, r0⟩ := trodAll_cons hA
  obtain ⟨v1, vs1, d1, ds1, p1, q1, rfl, rfl, rfl, h1, r1⟩ := trodAll_cons r0
  obtain ⟨rfl, rfl, rfl⟩ := trodAll_nil r1
  obtain rfl : args = #[v0, v1] := by cases args; simp_all
  have k0 := h0
  have lt0 : ∀ x ∈ p0, x.block < W.heap.size := by obtain ⟨m, hm⟩ := k0; exact DataW.trod_lt m _ _ _ hm
  obtain ⟨a0, len0, cap0, xs, rfl, hlc, hcm, hx, hnil⟩ : ∃ a n k xs, v0 = .slice a n k ∧ n ≤ k ∧ k ≤ maxLen ∧ Reads W a n xs ∧ (a = none → n = 0 ∧ k = 0) := by
    obtain ⟨a, n, k, he⟩ := okWide_slice Tryf.underlying24 (hval 0 24 v0 rfl rfl)
    obtain ⟨fuel, hf⟩ := h0
    exact reads_of (c := v0) (by subst he; simpa [Value.cells] using hf)
  obtain ⟨a1, rfl, rfl, rfl, w1⟩ := open_int Tryf.underlying3 (hval 1 3 v1 rfl rfl) h1
  obtain ⟨aE, aU, aS, aP, hs, hvS, hvP⟩ := sentinels_of_laid (W := W) hL
  obtain ⟨rfl, rfl⟩ := hV.unique (vars_read enc hvS hvP trivial trivial _)
  clear hA0 hV0 hval0
  refine (law_any F.told a0 len0 cap0 a1 xs aE aU aS aP W hF hs hx hlc hnil).mono fun e W' ⟨he, hk⟩ => ?_
  subst he
  have bel : Below W.heap.size W W' := hk.below (Nat.le_refl _) (fun _ x => x.elim)
  refine ⟨_, rfl, _, _, _, [], _, [.cell 3 0, .cell 4 0], hW', trodAll_mk1 (shut_bool Tryf.underlying4 _), (trodAll_cons_mk (Below.trod laidOut (by kernel_rfl) (of_decide_eq_true (by kernel_rfl)) k0 bel lt0) (trodAll_cons_mk (shut_int Tryf.underlying3 w1) trodAll_mk0)), ?_, bel.frame _, fun h => by cases h⟩
  exact vars_read enc (var_keep hk gS hvS (fun x => x)) (var_keep hk gP hvP (fun x => x)) trivial trivial _
end Go.Proofs.Qxb6616818aFmt
