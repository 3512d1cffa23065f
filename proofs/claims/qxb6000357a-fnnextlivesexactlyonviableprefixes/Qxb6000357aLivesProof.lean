import Derived.Test.Qxb6000357aLivesLift
import Derived.Test.Qxb6000357aHead
namespace Go.Proofs.Qxb6000357a.fnNextLivesExactlyOnViablePrefixes
open Go.ChangeShapes Go.WideShapes Go.ChangeAt Go.RowKit

theorem closed : joinedFacts Try.prog 4 Try.f4 Rows.fnNextLivesExactlyOnViablePrefixesSpec Rows.fnNextLivesExactlyOnViablePrefixesRow = true := by
  unfold joinedFacts
  repeat' (with_reducible refine both ?_ ?_)
  all_goals first | with_reducible exact mayEnter_true | (rw [liftsFinal_false]; first | done | kernel_rfl) | (rw [make_cut]; first | done | kernel_rfl) | (kernel_rfl)

theorem over : Rows.fnNextLivesExactlyOnViablePrefixesRow.holds Try.pinned (OpenSpec.ofChange Rows.fnNextLivesExactlyOnViablePrefixesSpec) :=
  OpenClaim.holds_of_wide 4 Try.f4 rfl rfl rfl rfl rfl rfl rfl ⟨rfl, rfl, rfl, rfl, rfl⟩ rfl rfl rfl rfl rfl (by kernel_rfl) Try.func4 closed
    (of_decide_eq_true (by kernel_rfl)) (by unfold Func.isWrapper; first | (rw [if_pos (by decide +kernel)]; kernel_rfl) | (rw [if_neg (by decide +kernel)]; exact ⟨rfl, rfl⟩))
    (fun os started H enc _ => lifted os started H enc)

/-- ████ THE STATEMENT ████ -/
theorem proved : Rows.FnNextLivesExactlyOnViablePrefixesSaid := over
#print axioms proved
end Go.Proofs.Qxb6000357a.fnNextLivesExactlyOnViablePrefixes
