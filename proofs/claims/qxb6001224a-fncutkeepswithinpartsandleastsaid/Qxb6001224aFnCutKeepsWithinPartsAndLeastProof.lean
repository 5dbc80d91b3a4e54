/- 'Rows.FnCutKeepsWithinPartsAndLeastSaid' out of 'lifted' (Qxb6001224aKeepsLift): a text of its own, for the memory lid. -/
import Derived.Test.Qxb6001224aKeepsLift
import Derived.Test.Qxb6001224aInit
namespace Go.Proofs.Qxb6001224a.fnCutKeepsWithinPartsAndLeast
open Go.ChangeShapes Go.WideShapes Go.ChangeAt Go.RowKit
open Go.ChangeMaps (open_string shut_string)
set_option linter.unusedVariables false

theorem closed : joinedFacts Try.pinned.checked.prog 4 Try.f4 Rows.fnCutKeepsWithinPartsAndLeastSpec Rows.fnCutKeepsWithinPartsAndLeastRow = true := by
  unfold joinedFacts
  rw [may_enter, lifts_final, make_cut]
  kernel_rfl

theorem over : Rows.fnCutKeepsWithinPartsAndLeastRow.holds Try.pinned (OpenSpec.ofChange Rows.fnCutKeepsWithinPartsAndLeastSpec) :=
  OpenClaim.holds_of_wide 4 Try.f4 rfl rfl rfl rfl rfl rfl rfl ⟨rfl, rfl, rfl, rfl, rfl⟩ rfl rfl rfl rfl rfl (by kernel_rfl) Try.func4 closed
    (of_decide_eq_true (by kernel_rfl)) (by unfold Func.isWrapper; first | (rw [if_pos (by decide +kernel)]; kernel_rfl) | (rw [if_neg (by decide +kernel)]; exact ⟨rfl, rfl⟩))
    (fun os started H enc _ => lifted os started H enc)

/-- ████ THE STATEMENT ████ -/
theorem proved : Rows.FnCutKeepsWithinPartsAndLeastSaid :=
  over
end Go.Proofs.Qxb6001224a.fnCutKeepsWithinPartsAndLeast
