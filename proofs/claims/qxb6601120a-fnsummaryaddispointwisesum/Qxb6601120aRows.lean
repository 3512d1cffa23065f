/-
  No cell of these rows narrows 'for every input' (looked for: loops, veiled, ifaces, maps, wideKeys, modest, calm, conditions, laid).
  DERIVED. THE GIVEN ROWS OF THIS SEAT. 3 by the template 'for every input the law returns true; each argument reads behind the call as it read before'; 0 by the template 'total and deterministic' (their statements: Qxb6601120aTotals.lean).
  GIVEN WITH THE SEED: the statements are not yours to turn. If you find one false, say at which input.
  Laid BY PROGRAM, IN A SANDBOX (cutbox-rows.mjs): the forced cells as the released guide's own fill.sh prints them over the translation b7fe9a33744d095a… (all of the seat's roots in one cut). By AI agents, Wed Nov 11 2026. No macro, syntax, notation, axiom, sorry.
-/
import Derived.Test.Qxb6601120aChecked
import GoSem.Claim
import GoSem.ClaimJoined
import GoSem.ClaimMapViews
import Derived.JoinedTies
import Derived.KernelRfl
namespace Go.Proofs.Qxb6601120a
/- THE CELL 'sum', in the pinned program and in every row, IS THE sha256 OF THE DUMP (.gsa) THAT Qxb6601120aProg.lean LOADS. Nothing in Lean hashes anything: it is a label: what it is worth is what the hold of that sum in a sandbox is worth. -/
noncomputable def Try.pinned : Pinned := { name := "qxb6601120a", sum := "b7fe9a33744d095a1b05a43360f8758cdd460a0c4077ba792143ed6ef26fe90f", checked := Try.checked }
namespace Rows
def none {H : Type} : Left H := { results := [], args := [] }

/-- 'zzlaws_pkg_collect_b1.FnSummaryAddIsPointwiseSum': WHATEVER THE INPUT: true; the input reads as it did. -/
def fnSummaryAddIsPointwiseSumSpec : ChangeSpec := { name := "fnSummaryAddIsPointwiseSum", fn := fun _ => fun
  | [d1, d2] => { results := [.lit (.bool true)], args := [d1, d2] }
  | _ => none }
def fnSummaryAddIsPointwiseSumRow : OpenClaim := { program := "qxb6601120a", sum := "b7fe9a33744d095a1b05a43360f8758cdd460a0c4077ba792143ed6ef26fe90f", func := "example.com/dues-collector/dues-collector/zzlaws_pkg_collect_b1.FnSummaryAddIsPointwiseSum", spec := "fnSummaryAddIsPointwiseSum", apart := false }
def FnSummaryAddIsPointwiseSumSaid : Prop := fnSummaryAddIsPointwiseSumRow.holds Try.pinned (OpenSpec.ofChange fnSummaryAddIsPointwiseSumSpec)

/-- ITS FALSE NEIGHBOUR: 'it returns false'. Refute it at one input. -/
def fnSummaryAddIsPointwiseSumWrong : ChangeSpec := { name := "fnSummaryAddIsPointwiseSum", fn := fun _ => fun
  | [d1, d2] => { results := [.lit (.bool false)], args := [d1, d2] }
  | _ => none }
def FnSummaryAddIsPointwiseSumWrongFalsely : Prop := fnSummaryAddIsPointwiseSumRow.holds Try.pinned (OpenSpec.ofChange fnSummaryAddIsPointwiseSumWrong)

/-- 'zzlaws_pkg_collect_b1.FnSummaryAddOrderFree': WHATEVER THE INPUT: true; the input reads as it did. -/
def fnSummaryAddOrderFreeSpec : ChangeSpec := { name := "fnSummaryAddOrderFree", fn := fun _ => fun
  | [d1, d2, d3] => { results := [.lit (.bool true)], args := [d1, d2, d3] }
  | _ => none }
def fnSummaryAddOrderFreeRow : OpenClaim := { program := "qxb6601120a", sum := "b7fe9a33744d095a1b05a43360f8758cdd460a0c4077ba792143ed6ef26fe90f", func := "example.com/dues-collector/dues-collector/zzlaws_pkg_collect_b1.FnSummaryAddOrderFree", spec := "fnSummaryAddOrderFree", apart := false }
def FnSummaryAddOrderFreeSaid : Prop := fnSummaryAddOrderFreeRow.holds Try.pinned (OpenSpec.ofChange fnSummaryAddOrderFreeSpec)

/-- ITS FALSE NEIGHBOUR: 'it returns false'. Refute it at one input. -/
def fnSummaryAddOrderFreeWrong : ChangeSpec := { name := "fnSummaryAddOrderFree", fn := fun _ => fun
  | [d1, d2, d3] => { results := [.lit (.bool false)], args := [d1, d2, d3] }
  | _ => none }
def FnSummaryAddOrderFreeWrongFalsely : Prop := fnSummaryAddOrderFreeRow.holds Try.pinned (OpenSpec.ofChange fnSummaryAddOrderFreeWrong)

/-- 'zzlaws_pkg_collect_b1.FnResumedIdempotentNeverPending': WHATEVER THE INPUT: true; the input reads as it did. -/
def fnResumedIdempotentNeverPendingSpec : ChangeSpec := { name := "fnResumedIdempotentNeverPending", fn := fun _ => fun
  | [d] => { results := [.lit (.bool true)], args := [d] }
  | _ => none }
def fnResumedIdempotentNeverPendingRow : OpenClaim := { program := "qxb6601120a", sum := "b7fe9a33744d095a1b05a43360f8758cdd460a0c4077ba792143ed6ef26fe90f", func := "example.com/dues-collector/dues-collector/zzlaws_pkg_collect_b1.FnResumedIdempotentNeverPending", spec := "fnResumedIdempotentNeverPending", apart := false }
def FnResumedIdempotentNeverPendingSaid : Prop := fnResumedIdempotentNeverPendingRow.holds Try.pinned (OpenSpec.ofChange fnResumedIdempotentNeverPendingSpec)

/-- ITS FALSE NEIGHBOUR: 'it returns false'. Refute it at one input. -/
def fnResumedIdempotentNeverPendingWrong : ChangeSpec := { name := "fnResumedIdempotentNeverPending", fn := fun _ => fun
  | [d] => { results := [.lit (.bool false)], args := [d] }
  | _ => none }
def FnResumedIdempotentNeverPendingWrongFalsely : Prop := fnResumedIdempotentNeverPendingRow.holds Try.pinned (OpenSpec.ofChange fnResumedIdempotentNeverPendingWrong)

end Rows
end Go.Proofs.Qxb6601120a
