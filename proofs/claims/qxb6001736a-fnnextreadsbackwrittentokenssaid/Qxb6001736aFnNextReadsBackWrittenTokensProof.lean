/- 'Rows.FnNextReadsBackWrittenTokensSaid' out of 'lifted' (Qxb6001736aLift): a text of its own, for the memory lid. -/
import Derived.Test.Qxb6001736aLift
import Derived.Test.Qxb6001736aInit
namespace Go.Proofs.Qxb6001736a.fnNextReadsBackWrittenTokens
open Go.ChangeShapes Go.WideShapes Go.ChangeAt Go.RowKit
set_option linter.unusedVariables false

theorem closed : joinedFacts Try.pinned.checked.prog 3 Try.f3 Rows.fnNextReadsBackWrittenTokensSpec Rows.fnNextReadsBackWrittenTokensRow = true := by
  unfold joinedFacts
  rw [may_enter, lifts_final, make_cut]
  kernel_rfl

theorem over : Rows.fnNextReadsBackWrittenTokensRow.holds Try.pinned (OpenSpec.ofChange Rows.fnNextReadsBackWrittenTokensSpec) :=
  OpenClaim.holds_of_wide 3 Try.f3 rfl rfl rfl rfl rfl rfl rfl ⟨rfl, rfl, rfl, rfl, rfl⟩ rfl rfl rfl rfl rfl (by kernel_rfl) Try.func3 closed
    (of_decide_eq_true (by kernel_rfl)) (by unfold Func.isWrapper; first | (rw [if_pos (by decide +kernel)]; kernel_rfl) | (rw [if_neg (by decide +kernel)]; exact ⟨rfl, rfl⟩))
    (fun os started H enc _ => lifted os started H enc)

/-- THE STATEMENT -/
theorem proved : Rows.FnNextReadsBackWrittenTokensSaid := over
end Go.Proofs.Qxb6001736a.fnNextReadsBackWrittenTokens
