/-
  No cell of these rows narrows 'for every input' (looked for: loops, veiled, ifaces, maps, wideKeys, modest, calm, conditions, laid).
  DERIVED. THE GIVEN ROWS OF THIS SEAT. 5 by the template 'for every input the law returns true; each argument reads behind the call as it read before'; 0 by the template 'total and deterministic' (their statements: Qxb6601111aTotals.lean).
  GIVEN WITH THE SEED: the statements are not yours to turn. If you find one false, say at which input.
  Laid BY PROGRAM, IN A SANDBOX (cutbox-rows.mjs): the forced cells as the released guide's own fill.sh prints them over the translation 493a45c46cef8df6… (all of the seat's roots in one cut). By AI agents, Wed Nov 11 2026. No macro, syntax, notation, axiom, sorry.
-/
import Derived.Test.Qxb6601111aChecked
import GoSem.Claim
import GoSem.ClaimJoined
import GoSem.ClaimMapViews
import Derived.JoinedTies
import Derived.KernelRfl
namespace Go.Proofs.Qxb6601111a
/- THE CELL 'sum', in the pinned program and in every row, IS THE sha256 OF THE DUMP (.gsa) THAT Qxb6601111aProg.lean LOADS. Nothing in Lean hashes anything: it is a label: what it is worth is what the hold of that sum in a sandbox is worth. -/
noncomputable def Try.pinned : Pinned := { name := "qxb6601111a", sum := "493a45c46cef8df68dfa22c1e7b0f124d77ce3703397a95c426f9c0492a80c86", checked := Try.checked }
namespace Rows
def none {H : Type} : Left H := { results := [], args := [] }

/-- 'zzlaws_secrule_b1.FnAlternateFactsMatchesCaseTable': WHATEVER THE INPUT: true; the input reads as it did. -/
def fnAlternateFactsMatchesCaseTableSpec : ChangeSpec := { name := "fnAlternateFactsMatchesCaseTable", fn := fun _ => fun
  | [d] => { results := [.lit (.bool true)], args := [d] }
  | _ => none }
def fnAlternateFactsMatchesCaseTableRow : OpenClaim := { program := "qxb6601111a", sum := "493a45c46cef8df68dfa22c1e7b0f124d77ce3703397a95c426f9c0492a80c86", func := "example.com/hornwork/hornwork/zzlaws_secrule_b1.FnAlternateFactsMatchesCaseTable", spec := "fnAlternateFactsMatchesCaseTable", apart := false }
def FnAlternateFactsMatchesCaseTableSaid : Prop := fnAlternateFactsMatchesCaseTableRow.holds Try.pinned (OpenSpec.ofChange fnAlternateFactsMatchesCaseTableSpec)

/-- ITS FALSE NEIGHBOUR: 'it returns false'. Refute it at one input. -/
def fnAlternateFactsMatchesCaseTableWrong : ChangeSpec := { name := "fnAlternateFactsMatchesCaseTable", fn := fun _ => fun
  | [d] => { results := [.lit (.bool false)], args := [d] }
  | _ => none }
def FnAlternateFactsMatchesCaseTableWrongFalsely : Prop := fnAlternateFactsMatchesCaseTableRow.holds Try.pinned (OpenSpec.ofChange fnAlternateFactsMatchesCaseTableWrong)

/-- 'zzlaws_secrule_b1.FnAlternateFactsOrderFree': WHATEVER THE INPUT: true; the input reads as it did. -/
def fnAlternateFactsOrderFreeSpec : ChangeSpec := { name := "fnAlternateFactsOrderFree", fn := fun _ => fun
  | [d] => { results := [.lit (.bool true)], args := [d] }
  | _ => none }
def fnAlternateFactsOrderFreeRow : OpenClaim := { program := "qxb6601111a", sum := "493a45c46cef8df68dfa22c1e7b0f124d77ce3703397a95c426f9c0492a80c86", func := "example.com/hornwork/hornwork/zzlaws_secrule_b1.FnAlternateFactsOrderFree", spec := "fnAlternateFactsOrderFree", apart := false }
def FnAlternateFactsOrderFreeSaid : Prop := fnAlternateFactsOrderFreeRow.holds Try.pinned (OpenSpec.ofChange fnAlternateFactsOrderFreeSpec)

/-- ITS FALSE NEIGHBOUR: 'it returns false'. Refute it at one input. -/
def fnAlternateFactsOrderFreeWrong : ChangeSpec := { name := "fnAlternateFactsOrderFree", fn := fun _ => fun
  | [d] => { results := [.lit (.bool false)], args := [d] }
  | _ => none }
def FnAlternateFactsOrderFreeWrongFalsely : Prop := fnAlternateFactsOrderFreeRow.holds Try.pinned (OpenSpec.ofChange fnAlternateFactsOrderFreeWrong)

/-- 'zzlaws_secrule_b1.FnCmdLineMatchesThreePassModel': WHATEVER THE INPUT: true; the input reads as it did. -/
def fnCmdLineMatchesThreePassModelSpec : ChangeSpec := { name := "fnCmdLineMatchesThreePassModel", fn := fun _ => fun
  | [d] => { results := [.lit (.bool true)], args := [d] }
  | _ => none }
def fnCmdLineMatchesThreePassModelRow : OpenClaim := { program := "qxb6601111a", sum := "493a45c46cef8df68dfa22c1e7b0f124d77ce3703397a95c426f9c0492a80c86", func := "example.com/hornwork/hornwork/zzlaws_secrule_b1.FnCmdLineMatchesThreePassModel", spec := "fnCmdLineMatchesThreePassModel", apart := false }
def FnCmdLineMatchesThreePassModelSaid : Prop := fnCmdLineMatchesThreePassModelRow.holds Try.pinned (OpenSpec.ofChange fnCmdLineMatchesThreePassModelSpec)

/-- ITS FALSE NEIGHBOUR: 'it returns false'. Refute it at one input. -/
def fnCmdLineMatchesThreePassModelWrong : ChangeSpec := { name := "fnCmdLineMatchesThreePassModel", fn := fun _ => fun
  | [d] => { results := [.lit (.bool false)], args := [d] }
  | _ => none }
def FnCmdLineMatchesThreePassModelWrongFalsely : Prop := fnCmdLineMatchesThreePassModelRow.holds Try.pinned (OpenSpec.ofChange fnCmdLineMatchesThreePassModelWrong)

/-- 'zzlaws_secrule_b1.FnCmdLineIdempotent': WHATEVER THE INPUT: true; the input reads as it did. -/
def fnCmdLineIdempotentSpec : ChangeSpec := { name := "fnCmdLineIdempotent", fn := fun _ => fun
  | [d] => { results := [.lit (.bool true)], args := [d] }
  | _ => none }
def fnCmdLineIdempotentRow : OpenClaim := { program := "qxb6601111a", sum := "493a45c46cef8df68dfa22c1e7b0f124d77ce3703397a95c426f9c0492a80c86", func := "example.com/hornwork/hornwork/zzlaws_secrule_b1.FnCmdLineIdempotent", spec := "fnCmdLineIdempotent", apart := false }
def FnCmdLineIdempotentSaid : Prop := fnCmdLineIdempotentRow.holds Try.pinned (OpenSpec.ofChange fnCmdLineIdempotentSpec)

/-- ITS FALSE NEIGHBOUR: 'it returns false'. Refute it at one input. -/
def fnCmdLineIdempotentWrong : ChangeSpec := { name := "fnCmdLineIdempotent", fn := fun _ => fun
  | [d] => { results := [.lit (.bool false)], args := [d] }
  | _ => none }
def FnCmdLineIdempotentWrongFalsely : Prop := fnCmdLineIdempotentRow.holds Try.pinned (OpenSpec.ofChange fnCmdLineIdempotentWrong)

/-- 'zzlaws_secrule_b1.FnCmdLineOutputShape': WHATEVER THE INPUT: true; the input reads as it did. -/
def fnCmdLineOutputShapeSpec : ChangeSpec := { name := "fnCmdLineOutputShape", fn := fun _ => fun
  | [d] => { results := [.lit (.bool true)], args := [d] }
  | _ => none }
def fnCmdLineOutputShapeRow : OpenClaim := { program := "qxb6601111a", sum := "493a45c46cef8df68dfa22c1e7b0f124d77ce3703397a95c426f9c0492a80c86", func := "example.com/hornwork/hornwork/zzlaws_secrule_b1.FnCmdLineOutputShape", spec := "fnCmdLineOutputShape", apart := false }
def FnCmdLineOutputShapeSaid : Prop := fnCmdLineOutputShapeRow.holds Try.pinned (OpenSpec.ofChange fnCmdLineOutputShapeSpec)

/-- ITS FALSE NEIGHBOUR: 'it returns false'. Refute it at one input. -/
def fnCmdLineOutputShapeWrong : ChangeSpec := { name := "fnCmdLineOutputShape", fn := fun _ => fun
  | [d] => { results := [.lit (.bool false)], args := [d] }
  | _ => none }
def FnCmdLineOutputShapeWrongFalsely : Prop := fnCmdLineOutputShapeRow.holds Try.pinned (OpenSpec.ofChange fnCmdLineOutputShapeWrong)

end Rows
end Go.Proofs.Qxb6601111a
