import Derived.Test.Qxb6601111aCmdLineLift
import Derived.Test.Qxb6601111aHead
namespace Go.Proofs.Qxb6601111a.fnCmdLineMatchesThreePassModel
open Go.ChangeShapes Go.WideShapes Go.ChangeAt Go.RowKit

theorem closed : joinedFacts Try.prog 5 Try.f5 Rows.fnCmdLineMatchesThreePassModelSpec Rows.fnCmdLineMatchesThreePassModelRow = true := by
  unfold joinedFacts
  repeat' (with_reducible refine both ?_ ?_)
  all_goals first | with_reducible exact mayEnter_true | (rw [liftsFinal_false]; first | done | kernel_rfl) | (rw [make_cut]; first | done | kernel_rfl) | (kernel_rfl)

theorem over : Rows.fnCmdLineMatchesThreePassModelRow.holds Try.pinned (OpenSpec.ofChange Rows.fnCmdLineMatchesThreePassModelSpec) :=
  OpenClaim.holds_of_wide 5 Try.f5 rfl rfl rfl rfl rfl rfl rfl ⟨rfl, rfl, rfl, rfl, rfl⟩ rfl rfl rfl rfl rfl (by kernel_rfl) Try.func5 closed
    (of_decide_eq_true (by kernel_rfl)) (by unfold Func.isWrapper; first | (rw [if_pos (by decide +kernel)]; kernel_rfl) | (rw [if_neg (by decide +kernel)]; exact ⟨rfl, rfl⟩))
    (fun os started H enc _ => lifted os started H enc)

/-- ████ THE STATEMENT ████ -/
theorem proved : Rows.FnCmdLineMatchesThreePassModelSaid := over
#print axioms proved
end Go.Proofs.Qxb6601111a.fnCmdLineMatchesThreePassModel
