import Derived.Test.Qxb6000357aWordAtLift
import Derived.Test.Qxb6000357aHead
namespace Go.Proofs.Qxb6000357a.fnWordAtReadsBitsFromI
open Go.ChangeShapes Go.WideShapes Go.ChangeAt Go.RowKit

theorem closed : joinedFacts Try.prog 8 Try.f8 Rows.fnWordAtReadsBitsFromISpec Rows.fnWordAtReadsBitsFromIRow = true := by
  unfold joinedFacts
  repeat' (with_reducible refine both ?_ ?_)
  all_goals first | with_reducible exact mayEnter_true | (rw [liftsFinal_false]; first | done | kernel_rfl) | (rw [make_cut]; first | done | kernel_rfl) | (kernel_rfl)

theorem over : Rows.fnWordAtReadsBitsFromIRow.holds Try.pinned (OpenSpec.ofChange Rows.fnWordAtReadsBitsFromISpec) :=
  OpenClaim.holds_of_wide 8 Try.f8 rfl rfl rfl rfl rfl rfl rfl ⟨rfl, rfl, rfl, rfl, rfl⟩ rfl rfl rfl rfl rfl (by kernel_rfl) Try.func8 closed
    (of_decide_eq_true (by kernel_rfl)) (by unfold Func.isWrapper; first | (rw [if_pos (by decide +kernel)]; kernel_rfl) | (rw [if_neg (by decide +kernel)]; exact ⟨rfl, rfl⟩))
    (fun os started H enc _ => lifted os started H enc)

/-- ████ THE STATEMENT ████ -/
theorem proved : Rows.FnWordAtReadsBitsFromISaid := over
#print axioms proved
end Go.Proofs.Qxb6000357a.fnWordAtReadsBitsFromI
