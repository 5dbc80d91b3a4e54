/- 'Rows.FnCutPiecesRebuildTextAndCountLinesSaid' out of 'lifted' (Qxb6001224aRebuildLift): a text of its own, for the memory lid. -/
import Derived.Test.Qxb6001224aRebuildLift
import Derived.Test.Qxb6001224aInit
namespace Go.Proofs.Qxb6001224a.fnCutPiecesRebuildTextAndCountLines
open Go.ChangeShapes Go.WideShapes Go.ChangeAt Go.RowKit
open Go.ChangeMaps (open_string shut_string)
set_option linter.unusedVariables false

theorem closed : joinedFacts Try.pinned.checked.prog 3 Try.f3 Rows.fnCutPiecesRebuildTextAndCountLinesSpec Rows.fnCutPiecesRebuildTextAndCountLinesRow = true := by
  unfold joinedFacts
  rw [may_enter, lifts_final, make_cut]
  kernel_rfl

theorem over : Rows.fnCutPiecesRebuildTextAndCountLinesRow.holds Try.pinned (OpenSpec.ofChange Rows.fnCutPiecesRebuildTextAndCountLinesSpec) :=
  OpenClaim.holds_of_wide 3 Try.f3 rfl rfl rfl rfl rfl rfl rfl ⟨rfl, rfl, rfl, rfl, rfl⟩ rfl rfl rfl rfl rfl (by kernel_rfl) Try.func3 closed
    (of_decide_eq_true (by kernel_rfl)) (by unfold Func.isWrapper; first | (rw [if_pos (by decide +kernel)]; kernel_rfl) | (rw [if_neg (by decide +kernel)]; exact ⟨rfl, rfl⟩))
    (fun os started H enc _ => lifted os started H enc)

/-- ████ THE STATEMENT ████ -/
theorem proved : Rows.FnCutPiecesRebuildTextAndCountLinesSaid :=
  over
end Go.Proofs.Qxb6001224a.fnCutPiecesRebuildTextAndCountLines
