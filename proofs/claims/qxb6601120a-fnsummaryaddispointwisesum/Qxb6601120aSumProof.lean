import Derived.Test.Qxb6601120aSumLift
import Derived.Test.Qxb6601120aHead
namespace Go.Proofs.Qxb6601120a.fnSummaryAddIsPointwiseSum
open Go.ChangeShapes Go.WideShapes Go.ChangeAt Go.RowKit

theorem closed : joinedFacts Try.prog 3 Try.f3 Rows.fnSummaryAddIsPointwiseSumSpec Rows.fnSummaryAddIsPointwiseSumRow = true := by
  unfold joinedFacts
  repeat' (with_reducible refine both ?_ ?_)
  all_goals first | with_reducible exact mayEnter_true | (rw [liftsFinal_false]; first | done | kernel_rfl) | (rw [make_cut]; first | done | kernel_rfl) | (kernel_rfl)

theorem over : Rows.fnSummaryAddIsPointwiseSumRow.holds Try.pinned (OpenSpec.ofChange Rows.fnSummaryAddIsPointwiseSumSpec) :=
  OpenClaim.holds_of_wide 3 Try.f3 rfl rfl rfl rfl rfl rfl rfl ⟨rfl, rfl, rfl, rfl, rfl⟩ rfl rfl rfl rfl rfl (by kernel_rfl) Try.func3 closed
    (of_decide_eq_true (by kernel_rfl)) (by unfold Func.isWrapper; first | (rw [if_pos (by decide +kernel)]; kernel_rfl) | (rw [if_neg (by decide +kernel)]; exact ⟨rfl, rfl⟩))
    (fun os started H enc _ => lifted os started H enc)

/-- ████ THE STATEMENT ████ -/
theorem proved : Rows.FnSummaryAddIsPointwiseSumSaid := over
#print axioms proved
end Go.Proofs.Qxb6601120a.fnSummaryAddIsPointwiseSum
