/-
  THE TOLD AND TIED CARD of 'FnReadPacketReadsStreamFrameByFrame' proved, out of the row in Qxb6616818aFmtLift and the given tie.
-/
import Derived.Test.Qxb6616818aFmtLift
import Derived.Test.Qxb6616818aFmtTie
import Derived.Test.Qxb6616818aFmtCards
import Derived.SevenTiedAt
namespace Go.Proofs.Qxb6616818aFmt.fnReadPacketReadsStreamFrameByFrame
open Go.Extern.Stop Go.Stop Go.Extern

theorem laidOutP : laidOutB Tryf.pinned.checked.prog = true := by as_aux_lemma => kernel_rfl
theorem stops : Tryf.pinned.checked.prog.stops = ["fmt.errorf"] := by as_aux_lemma => kernel_rfl
theorem stopKnobs : Tryf.pinned.checked.prog.stopKnobs = [] := by as_aux_lemma => kernel_rfl
theorem quiet (os : Os) : Stop.quiet Tryf.pinned.checked.prog os := by
  intro k hk
  rw [stopKnobs] at hk
  cases hk

set_option maxRecDepth 1000000 in
set_option maxHeartbeats 0 in
/-- THE STATEMENT -/
theorem proved : Rows.FnReadPacketReadsStreamFrameByFrameToldSaid :=
  Claim7.holds_of_told_tied_any_at .later 4 Tryf.f4 "fmt.errorf" [] [] _ _ _ _ _ (by as_aux_lemma => kernel_rfl) rfl rfl rfl laidOutP (by as_aux_lemma => kernel_rfl) rfl ⟨rfl, rfl, rfl, rfl, rfl, rfl, rfl⟩ rfl rfl (by as_aux_lemma => kernel_rfl) (by as_aux_lemma => kernel_rfl) Tryf.func4 (by as_aux_lemma => kernel_rfl)
    (of_decide_eq_true (by as_aux_lemma => kernel_rfl)) (by unfold Func.isWrapper; first | (rw [if_pos (by decide +kernel)]; kernel_rfl) | (rw [if_neg (by decide +kernel)]; exact ⟨rfl, rfl⟩)) stops.symm rfl stopKnobs.symm (by as_aux_lemma => kernel_rfl)
    (by as_aux_lemma => kernel_rfl) (by as_aux_lemma => kernel_rfl) (by as_aux_lemma => kernel_rfl) (by as_aux_lemma => kernel_rfl) (by as_aux_lemma => kernel_rfl) (by as_aux_lemma => kernel_rfl) (by as_aux_lemma => kernel_rfl) (by as_aux_lemma => kernel_rfl) (by as_aux_lemma => kernel_rfl) rfl (by as_aux_lemma => kernel_rfl) rfl rfl
    rfl rfl
    rfl (by as_aux_lemma => kernel_rfl) (by as_aux_lemma => kernel_rfl) (by as_aux_lemma => kernel_rfl) (by decide) (by as_aux_lemma => kernel_rfl) fnReadPacketReadsStreamFrameByFrame_row_tie
    (OpenClaim.moreEntering_of (by as_aux_lemma => kernel_rfl) (by as_aux_lemma => kernel_rfl) (by as_aux_lemma => kernel_rfl) (by as_aux_lemma => kernel_rfl) (by as_aux_lemma => kernel_rfl) (by as_aux_lemma => kernel_rfl) (by as_aux_lemma => kernel_rfl) (by as_aux_lemma => kernel_rfl) (by as_aux_lemma => kernel_rfl) (by as_aux_lemma => kernel_rfl))
    ⟨_, WideRow.started_initial, quiet _⟩
    (fun os started _ H enc _ => lifted os started H enc)
#print axioms proved
end Go.Proofs.Qxb6616818aFmt.fnReadPacketReadsStreamFrameByFrame
