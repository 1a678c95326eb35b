/-
  No cell of these rows narrows 'for every input' (looked for: loops, veiled, ifaces, maps, wideKeys, modest, calm, conditions, laid).
  DERIVED. THE GIVEN ROWS OF THIS SEAT. 5 by the template 'for every input the law returns true; each argument reads behind the call as it read before'; 0 by the template 'total and deterministic' (their statements: Qxb6601838aTotals.lean).
  GIVEN WITH THE SEED: the statements are not yours to turn. If you find one false, say at which input.
  Laid BY PROGRAM, IN A SANDBOX (cutbox-rows.mjs): the forced cells as the released guide's own fill.sh prints them over the translation d47b2ee29d500584… (all of the seat's roots in one cut). By AI agents, Wed Nov 11 2026. No macro, syntax, notation, axiom, sorry.
-/
import Derived.Test.Qxb6601838aChecked
import GoSem.Claim
import GoSem.ClaimJoined
import GoSem.ClaimMapViews
import Derived.JoinedTies
import Derived.KernelRfl
namespace Go.Proofs.Qxb6601838a
/- THE CELL 'sum', in the pinned program and in every row, IS THE sha256 OF THE DUMP (.gsa) THAT Qxb6601838aProg.lean LOADS. Nothing in Lean hashes anything: it is a label: what it is worth is what the hold of that sum in a sandbox is worth. -/
noncomputable def Try.pinned : Pinned := { name := "qxb6601838a", sum := "d47b2ee29d500584b7f2cfa1673062d602c824b290a413a30e5a8e7e03e7cb3d", checked := Try.checked }
namespace Rows
def none {H : Type} : Left H := { results := [], args := [] }

/-- 'zzlaws_envelope_b1.FnNumberMatchesDFA': WHATEVER THE INPUT: true; the input reads as it did. -/
def fnNumberMatchesDFASpec : ChangeSpec := { name := "fnNumberMatchesDFA", fn := fun _ => fun
  | [d1, d2] => { results := [.lit (.bool true)], args := [d1, d2] }
  | _ => none }
def fnNumberMatchesDFARow : OpenClaim := { program := "qxb6601838a", sum := "d47b2ee29d500584b7f2cfa1673062d602c824b290a413a30e5a8e7e03e7cb3d", func := "example.com/backstop/backstop/zzlaws_envelope_b1.FnNumberMatchesDFA", spec := "fnNumberMatchesDFA", apart := false }
def FnNumberMatchesDFASaid : Prop := fnNumberMatchesDFARow.holds Try.pinned (OpenSpec.ofChange fnNumberMatchesDFASpec)

/-- ITS FALSE NEIGHBOUR: 'it returns false'. Refute it at one input. -/
def fnNumberMatchesDFAWrong : ChangeSpec := { name := "fnNumberMatchesDFA", fn := fun _ => fun
  | [d1, d2] => { results := [.lit (.bool false)], args := [d1, d2] }
  | _ => none }
def FnNumberMatchesDFAWrongFalsely : Prop := fnNumberMatchesDFARow.holds Try.pinned (OpenSpec.ofChange fnNumberMatchesDFAWrong)

/-- 'zzlaws_envelope_b1.FnNumberSelfDelimiting': WHATEVER THE INPUT: true; the input reads as it did. -/
def fnNumberSelfDelimitingSpec : ChangeSpec := { name := "fnNumberSelfDelimiting", fn := fun _ => fun
  | [d1, d2] => { results := [.lit (.bool true)], args := [d1, d2] }
  | _ => none }
def fnNumberSelfDelimitingRow : OpenClaim := { program := "qxb6601838a", sum := "d47b2ee29d500584b7f2cfa1673062d602c824b290a413a30e5a8e7e03e7cb3d", func := "example.com/backstop/backstop/zzlaws_envelope_b1.FnNumberSelfDelimiting", spec := "fnNumberSelfDelimiting", apart := false }
def FnNumberSelfDelimitingSaid : Prop := fnNumberSelfDelimitingRow.holds Try.pinned (OpenSpec.ofChange fnNumberSelfDelimitingSpec)

/-- ITS FALSE NEIGHBOUR: 'it returns false'. Refute it at one input. -/
def fnNumberSelfDelimitingWrong : ChangeSpec := { name := "fnNumberSelfDelimiting", fn := fun _ => fun
  | [d1, d2] => { results := [.lit (.bool false)], args := [d1, d2] }
  | _ => none }
def FnNumberSelfDelimitingWrongFalsely : Prop := fnNumberSelfDelimitingRow.holds Try.pinned (OpenSpec.ofChange fnNumberSelfDelimitingWrong)

/-- 'zzlaws_envelope_b1.FnLiteralSplits': WHATEVER THE INPUT: true; the input reads as it did. -/
def fnLiteralSplitsSpec : ChangeSpec := { name := "fnLiteralSplits", fn := fun _ => fun
  | [d1, d2, d3, d4] => { results := [.lit (.bool true)], args := [d1, d2, d3, d4] }
  | _ => none }
def fnLiteralSplitsRow : OpenClaim := { program := "qxb6601838a", sum := "d47b2ee29d500584b7f2cfa1673062d602c824b290a413a30e5a8e7e03e7cb3d", func := "example.com/backstop/backstop/zzlaws_envelope_b1.FnLiteralSplits", spec := "fnLiteralSplits", apart := false }
def FnLiteralSplitsSaid : Prop := fnLiteralSplitsRow.holds Try.pinned (OpenSpec.ofChange fnLiteralSplitsSpec)

/-- ITS FALSE NEIGHBOUR: 'it returns false'. Refute it at one input. -/
def fnLiteralSplitsWrong : ChangeSpec := { name := "fnLiteralSplits", fn := fun _ => fun
  | [d1, d2, d3, d4] => { results := [.lit (.bool false)], args := [d1, d2, d3, d4] }
  | _ => none }
def FnLiteralSplitsWrongFalsely : Prop := fnLiteralSplitsRow.holds Try.pinned (OpenSpec.ofChange fnLiteralSplitsWrong)

/-- 'zzlaws_envelope_b1.FnDigitsExact': WHATEVER THE INPUT: true; the input reads as it did. -/
def fnDigitsExactSpec : ChangeSpec := { name := "fnDigitsExact", fn := fun _ => fun
  | [d1, d2] => { results := [.lit (.bool true)], args := [d1, d2] }
  | _ => none }
def fnDigitsExactRow : OpenClaim := { program := "qxb6601838a", sum := "d47b2ee29d500584b7f2cfa1673062d602c824b290a413a30e5a8e7e03e7cb3d", func := "example.com/backstop/backstop/zzlaws_envelope_b1.FnDigitsExact", spec := "fnDigitsExact", apart := false }
def FnDigitsExactSaid : Prop := fnDigitsExactRow.holds Try.pinned (OpenSpec.ofChange fnDigitsExactSpec)

/-- ITS FALSE NEIGHBOUR: 'it returns false'. Refute it at one input. -/
def fnDigitsExactWrong : ChangeSpec := { name := "fnDigitsExact", fn := fun _ => fun
  | [d1, d2] => { results := [.lit (.bool false)], args := [d1, d2] }
  | _ => none }
def FnDigitsExactWrongFalsely : Prop := fnDigitsExactRow.holds Try.pinned (OpenSpec.ofChange fnDigitsExactWrong)

/-- 'zzlaws_envelope_b1.FnDigitsMonotoneIdempotent': WHATEVER THE INPUT: true; the input reads as it did. -/
def fnDigitsMonotoneIdempotentSpec : ChangeSpec := { name := "fnDigitsMonotoneIdempotent", fn := fun _ => fun
  | [d1, d2, d3] => { results := [.lit (.bool true)], args := [d1, d2, d3] }
  | _ => none }
def fnDigitsMonotoneIdempotentRow : OpenClaim := { program := "qxb6601838a", sum := "d47b2ee29d500584b7f2cfa1673062d602c824b290a413a30e5a8e7e03e7cb3d", func := "example.com/backstop/backstop/zzlaws_envelope_b1.FnDigitsMonotoneIdempotent", spec := "fnDigitsMonotoneIdempotent", apart := false }
def FnDigitsMonotoneIdempotentSaid : Prop := fnDigitsMonotoneIdempotentRow.holds Try.pinned (OpenSpec.ofChange fnDigitsMonotoneIdempotentSpec)

/-- ITS FALSE NEIGHBOUR: 'it returns false'. Refute it at one input. -/
def fnDigitsMonotoneIdempotentWrong : ChangeSpec := { name := "fnDigitsMonotoneIdempotent", fn := fun _ => fun
  | [d1, d2, d3] => { results := [.lit (.bool false)], args := [d1, d2, d3] }
  | _ => none }
def FnDigitsMonotoneIdempotentWrongFalsely : Prop := fnDigitsMonotoneIdempotentRow.holds Try.pinned (OpenSpec.ofChange fnDigitsMonotoneIdempotentWrong)

end Rows
end Go.Proofs.Qxb6601838a
