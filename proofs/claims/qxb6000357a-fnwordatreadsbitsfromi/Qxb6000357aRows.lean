/-
  No cell of these rows narrows 'for every input' (looked for: loops, veiled, ifaces, maps, wideKeys, modest, calm, conditions, laid).
  DERIVED. THE GIVEN ROWS OF THIS SEAT. 8 by the template 'for every input the law returns true; each argument reads behind the call as it read before'; 0 by the template 'total and deterministic' (their statements: Qxb6000357aTotals.lean).
  GIVEN WITH THE SEED: the statements are not yours to turn. If you find one false, say at which input.
  Laid BY PROGRAM, IN A SANDBOX (cutbox-rows.mjs): the forced cells as the released guide's own fill.sh prints them over the translation 74308cbafafaab93… (all of the seat's roots in one cut). By AI agents, Wed Nov 11 2026. No macro, syntax, notation, axiom, sorry.
-/
import Derived.Test.Qxb6000357aChecked
import GoSem.Claim
import GoSem.ClaimJoined
import GoSem.ClaimMapViews
import Derived.JoinedTies
import Derived.KernelRfl
namespace Go.Proofs.Qxb6000357a
/- THE CELL 'sum', in the pinned program and in every row, IS THE sha256 OF THE DUMP (.gsa) THAT Qxb6000357aProg.lean LOADS. Nothing in Lean hashes anything: it is a label: what it is worth is what the hold of that sum in a sandbox is worth. -/
noncomputable def Try.pinned : Pinned := { name := "qxb6000357a", sum := "74308cbafafaab934c4207c2643bf5d3419dd0724211c82c88704c23b1a99214", checked := Try.checked }
namespace Rows
def none {H : Type} : Left H := { results := [], args := [] }

/-- 'zzlaws_internal_jsonnum_b1.FnNextAcceptsExactlyJSONNumbers': WHATEVER THE INPUT: true; the input reads as it did. -/
def fnNextAcceptsExactlyJSONNumbersSpec : ChangeSpec := { name := "fnNextAcceptsExactlyJSONNumbers", fn := fun _ => fun
  | [d] => { results := [.lit (.bool true)], args := [d] }
  | _ => none }
def fnNextAcceptsExactlyJSONNumbersRow : OpenClaim := { program := "qxb6000357a", sum := "74308cbafafaab934c4207c2643bf5d3419dd0724211c82c88704c23b1a99214", func := "example.com/strict-codec/strict-codec/zzlaws_internal_jsonnum_b1.FnNextAcceptsExactlyJSONNumbers", spec := "fnNextAcceptsExactlyJSONNumbers", apart := false }
def FnNextAcceptsExactlyJSONNumbersSaid : Prop := fnNextAcceptsExactlyJSONNumbersRow.holds Try.pinned (OpenSpec.ofChange fnNextAcceptsExactlyJSONNumbersSpec)

/-- ITS FALSE NEIGHBOUR: 'it returns false'. Refute it at one input. -/
def fnNextAcceptsExactlyJSONNumbersWrong : ChangeSpec := { name := "fnNextAcceptsExactlyJSONNumbers", fn := fun _ => fun
  | [d] => { results := [.lit (.bool false)], args := [d] }
  | _ => none }
def FnNextAcceptsExactlyJSONNumbersWrongFalsely : Prop := fnNextAcceptsExactlyJSONNumbersRow.holds Try.pinned (OpenSpec.ofChange fnNextAcceptsExactlyJSONNumbersWrong)

/-- 'zzlaws_internal_jsonnum_b1.FnNextLivesExactlyOnViablePrefixes': WHATEVER THE INPUT: true; the input reads as it did. -/
def fnNextLivesExactlyOnViablePrefixesSpec : ChangeSpec := { name := "fnNextLivesExactlyOnViablePrefixes", fn := fun _ => fun
  | [d] => { results := [.lit (.bool true)], args := [d] }
  | _ => none }
def fnNextLivesExactlyOnViablePrefixesRow : OpenClaim := { program := "qxb6000357a", sum := "74308cbafafaab934c4207c2643bf5d3419dd0724211c82c88704c23b1a99214", func := "example.com/strict-codec/strict-codec/zzlaws_internal_jsonnum_b1.FnNextLivesExactlyOnViablePrefixes", spec := "fnNextLivesExactlyOnViablePrefixes", apart := false }
def FnNextLivesExactlyOnViablePrefixesSaid : Prop := fnNextLivesExactlyOnViablePrefixesRow.holds Try.pinned (OpenSpec.ofChange fnNextLivesExactlyOnViablePrefixesSpec)

/-- ITS FALSE NEIGHBOUR: 'it returns false'. Refute it at one input. -/
def fnNextLivesExactlyOnViablePrefixesWrong : ChangeSpec := { name := "fnNextLivesExactlyOnViablePrefixes", fn := fun _ => fun
  | [d] => { results := [.lit (.bool false)], args := [d] }
  | _ => none }
def FnNextLivesExactlyOnViablePrefixesWrongFalsely : Prop := fnNextLivesExactlyOnViablePrefixesRow.holds Try.pinned (OpenSpec.ofChange fnNextLivesExactlyOnViablePrefixesWrong)

/-- 'zzlaws_internal_jsonnum_b1.FnNextStaysInItsStates': WHATEVER THE INPUT: true; the input reads as it did. -/
def fnNextStaysInItsStatesSpec : ChangeSpec := { name := "fnNextStaysInItsStates", fn := fun _ => fun
  | [d1, d2] => { results := [.lit (.bool true)], args := [d1, d2] }
  | _ => none }
def fnNextStaysInItsStatesRow : OpenClaim := { program := "qxb6000357a", sum := "74308cbafafaab934c4207c2643bf5d3419dd0724211c82c88704c23b1a99214", func := "example.com/strict-codec/strict-codec/zzlaws_internal_jsonnum_b1.FnNextStaysInItsStates", spec := "fnNextStaysInItsStates", apart := false }
def FnNextStaysInItsStatesSaid : Prop := fnNextStaysInItsStatesRow.holds Try.pinned (OpenSpec.ofChange fnNextStaysInItsStatesSpec)

/-- ITS FALSE NEIGHBOUR: 'it returns false'. Refute it at one input. -/
def fnNextStaysInItsStatesWrong : ChangeSpec := { name := "fnNextStaysInItsStates", fn := fun _ => fun
  | [d1, d2] => { results := [.lit (.bool false)], args := [d1, d2] }
  | _ => none }
def FnNextStaysInItsStatesWrongFalsely : Prop := fnNextStaysInItsStatesRow.holds Try.pinned (OpenSpec.ofChange fnNextStaysInItsStatesWrong)

/-- 'zzlaws_internal_jsonnum_b1.FnExponentValueReadsWhatWasWritten': WHATEVER THE INPUT: true; the input reads as it did. -/
def fnExponentValueReadsWhatWasWrittenSpec : ChangeSpec := { name := "fnExponentValueReadsWhatWasWritten", fn := fun _ => fun
  | [d1, d2, d3, d4, d5] => { results := [.lit (.bool true)], args := [d1, d2, d3, d4, d5] }
  | _ => none }
def fnExponentValueReadsWhatWasWrittenRow : OpenClaim := { program := "qxb6000357a", sum := "74308cbafafaab934c4207c2643bf5d3419dd0724211c82c88704c23b1a99214", func := "example.com/strict-codec/strict-codec/zzlaws_internal_jsonnum_b1.FnExponentValueReadsWhatWasWritten", spec := "fnExponentValueReadsWhatWasWritten", apart := false }
def FnExponentValueReadsWhatWasWrittenSaid : Prop := fnExponentValueReadsWhatWasWrittenRow.holds Try.pinned (OpenSpec.ofChange fnExponentValueReadsWhatWasWrittenSpec)

/-- ITS FALSE NEIGHBOUR: 'it returns false'. Refute it at one input. -/
def fnExponentValueReadsWhatWasWrittenWrong : ChangeSpec := { name := "fnExponentValueReadsWhatWasWritten", fn := fun _ => fun
  | [d1, d2, d3, d4, d5] => { results := [.lit (.bool false)], args := [d1, d2, d3, d4, d5] }
  | _ => none }
def FnExponentValueReadsWhatWasWrittenWrongFalsely : Prop := fnExponentValueReadsWhatWasWrittenRow.holds Try.pinned (OpenSpec.ofChange fnExponentValueReadsWhatWasWrittenWrong)

/-- 'zzlaws_internal_jsonnum_b1.FnExponentValueStopsWhereTheDigitsStop': WHATEVER THE INPUT: true; the input reads as it did. -/
def fnExponentValueStopsWhereTheDigitsStopSpec : ChangeSpec := { name := "fnExponentValueStopsWhereTheDigitsStop", fn := fun _ => fun
  | [d] => { results := [.lit (.bool true)], args := [d] }
  | _ => none }
def fnExponentValueStopsWhereTheDigitsStopRow : OpenClaim := { program := "qxb6000357a", sum := "74308cbafafaab934c4207c2643bf5d3419dd0724211c82c88704c23b1a99214", func := "example.com/strict-codec/strict-codec/zzlaws_internal_jsonnum_b1.FnExponentValueStopsWhereTheDigitsStop", spec := "fnExponentValueStopsWhereTheDigitsStop", apart := false }
def FnExponentValueStopsWhereTheDigitsStopSaid : Prop := fnExponentValueStopsWhereTheDigitsStopRow.holds Try.pinned (OpenSpec.ofChange fnExponentValueStopsWhereTheDigitsStopSpec)

/-- ITS FALSE NEIGHBOUR: 'it returns false'. Refute it at one input. -/
def fnExponentValueStopsWhereTheDigitsStopWrong : ChangeSpec := { name := "fnExponentValueStopsWhereTheDigitsStop", fn := fun _ => fun
  | [d] => { results := [.lit (.bool false)], args := [d] }
  | _ => none }
def FnExponentValueStopsWhereTheDigitsStopWrongFalsely : Prop := fnExponentValueStopsWhereTheDigitsStopRow.holds Try.pinned (OpenSpec.ofChange fnExponentValueStopsWhereTheDigitsStopWrong)

/-- 'zzlaws_internal_jsonnum_b1.FnWordAtReadsBitsFromI': WHATEVER THE INPUT: true; the input reads as it did. -/
def fnWordAtReadsBitsFromISpec : ChangeSpec := { name := "fnWordAtReadsBitsFromI", fn := fun _ => fun
  | [d1, d2] => { results := [.lit (.bool true)], args := [d1, d2] }
  | _ => none }
def fnWordAtReadsBitsFromIRow : OpenClaim := { program := "qxb6000357a", sum := "74308cbafafaab934c4207c2643bf5d3419dd0724211c82c88704c23b1a99214", func := "example.com/strict-codec/strict-codec/zzlaws_internal_jsonnum_b1.FnWordAtReadsBitsFromI", spec := "fnWordAtReadsBitsFromI", apart := false }
def FnWordAtReadsBitsFromISaid : Prop := fnWordAtReadsBitsFromIRow.holds Try.pinned (OpenSpec.ofChange fnWordAtReadsBitsFromISpec)

/-- ITS FALSE NEIGHBOUR: 'it returns false'. Refute it at one input. -/
def fnWordAtReadsBitsFromIWrong : ChangeSpec := { name := "fnWordAtReadsBitsFromI", fn := fun _ => fun
  | [d1, d2] => { results := [.lit (.bool false)], args := [d1, d2] }
  | _ => none }
def FnWordAtReadsBitsFromIWrongFalsely : Prop := fnWordAtReadsBitsFromIRow.holds Try.pinned (OpenSpec.ofChange fnWordAtReadsBitsFromIWrong)

/-- 'zzlaws_internal_jsonnum_b1.FnWordAtShiftAgrees': WHATEVER THE INPUT: true; the input reads as it did. -/
def fnWordAtShiftAgreesSpec : ChangeSpec := { name := "fnWordAtShiftAgrees", fn := fun _ => fun
  | [d1, d2, d3] => { results := [.lit (.bool true)], args := [d1, d2, d3] }
  | _ => none }
def fnWordAtShiftAgreesRow : OpenClaim := { program := "qxb6000357a", sum := "74308cbafafaab934c4207c2643bf5d3419dd0724211c82c88704c23b1a99214", func := "example.com/strict-codec/strict-codec/zzlaws_internal_jsonnum_b1.FnWordAtShiftAgrees", spec := "fnWordAtShiftAgrees", apart := false }
def FnWordAtShiftAgreesSaid : Prop := fnWordAtShiftAgreesRow.holds Try.pinned (OpenSpec.ofChange fnWordAtShiftAgreesSpec)

/-- ITS FALSE NEIGHBOUR: 'it returns false'. Refute it at one input. -/
def fnWordAtShiftAgreesWrong : ChangeSpec := { name := "fnWordAtShiftAgrees", fn := fun _ => fun
  | [d1, d2, d3] => { results := [.lit (.bool false)], args := [d1, d2, d3] }
  | _ => none }
def FnWordAtShiftAgreesWrongFalsely : Prop := fnWordAtShiftAgreesRow.holds Try.pinned (OpenSpec.ofChange fnWordAtShiftAgreesWrong)

/-- 'zzlaws_internal_jsonnum_b1.FnWordAtIgnoresALowZeroWord': WHATEVER THE INPUT: true; the input reads as it did. -/
def fnWordAtIgnoresALowZeroWordSpec : ChangeSpec := { name := "fnWordAtIgnoresALowZeroWord", fn := fun _ => fun
  | [d1, d2] => { results := [.lit (.bool true)], args := [d1, d2] }
  | _ => none }
def fnWordAtIgnoresALowZeroWordRow : OpenClaim := { program := "qxb6000357a", sum := "74308cbafafaab934c4207c2643bf5d3419dd0724211c82c88704c23b1a99214", func := "example.com/strict-codec/strict-codec/zzlaws_internal_jsonnum_b1.FnWordAtIgnoresALowZeroWord", spec := "fnWordAtIgnoresALowZeroWord", apart := false }
def FnWordAtIgnoresALowZeroWordSaid : Prop := fnWordAtIgnoresALowZeroWordRow.holds Try.pinned (OpenSpec.ofChange fnWordAtIgnoresALowZeroWordSpec)

/-- ITS FALSE NEIGHBOUR: 'it returns false'. Refute it at one input. -/
def fnWordAtIgnoresALowZeroWordWrong : ChangeSpec := { name := "fnWordAtIgnoresALowZeroWord", fn := fun _ => fun
  | [d1, d2] => { results := [.lit (.bool false)], args := [d1, d2] }
  | _ => none }
def FnWordAtIgnoresALowZeroWordWrongFalsely : Prop := fnWordAtIgnoresALowZeroWordRow.holds Try.pinned (OpenSpec.ofChange fnWordAtIgnoresALowZeroWordWrong)

end Rows
end Go.Proofs.Qxb6000357a
