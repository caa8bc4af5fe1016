/-
  No cell of these rows narrows 'for every input' (looked for: loops, veiled, ifaces, maps, wideKeys, modest, calm, conditions, laid).
  DERIVED. THE GIVEN ROWS OF THIS SEAT. 7 by the template 'for every input the law returns true; each argument reads behind the call as it read before'; 0 by the template 'total and deterministic' (their statements: Qxb6600580aTotals.lean).
  GIVEN WITH THE SEED: the statements are not yours to turn. If you find one false, say at which input.
  Laid BY PROGRAM, IN A SANDBOX (cutbox-rows.mjs): the forced cells as the released guide's own fill.sh prints them over the translation e05d25a9791907e3… (all of the seat's roots in one cut). By AI agents, Wed Nov 11 2026. No macro, syntax, notation, axiom, sorry.
-/
import Derived.Test.Qxb6600580aChecked
import GoSem.Claim
import GoSem.ClaimJoined
import GoSem.ClaimMapViews
import Derived.JoinedTies
import Derived.KernelRfl
namespace Go.Proofs.Qxb6600580a
/- THE CELL 'sum', in the pinned program and in every row, IS THE sha256 OF THE DUMP (.gsa) THAT Qxb6600580aProg.lean LOADS. Nothing in Lean hashes anything: it is a label: what it is worth is what the hold of that sum in a sandbox is worth. -/
noncomputable def Try.pinned : Pinned := { name := "qxb6600580a", sum := "e05d25a9791907e3535d321025cadf9bb52804d11d07274ba4355245a026bed1", checked := Try.checked }
namespace Rows
def none {H : Type} : Left H := { results := [], args := [] }

/-- 'zzlaws_internal_strictjson_b1.FnSkipSpaceLandsOnFirstNonSpace': WHATEVER THE INPUT: true; the input reads as it did. -/
def fnSkipSpaceLandsOnFirstNonSpaceSpec : ChangeSpec := { name := "fnSkipSpaceLandsOnFirstNonSpace", fn := fun _ => fun
  | [d1, d2] => { results := [.lit (.bool true)], args := [d1, d2] }
  | _ => none }
def fnSkipSpaceLandsOnFirstNonSpaceRow : OpenClaim := { program := "qxb6600580a", sum := "e05d25a9791907e3535d321025cadf9bb52804d11d07274ba4355245a026bed1", func := "example.com/provenant/provenant/zzlaws_internal_strictjson_b1.FnSkipSpaceLandsOnFirstNonSpace", spec := "fnSkipSpaceLandsOnFirstNonSpace", apart := false }
def FnSkipSpaceLandsOnFirstNonSpaceSaid : Prop := fnSkipSpaceLandsOnFirstNonSpaceRow.holds Try.pinned (OpenSpec.ofChange fnSkipSpaceLandsOnFirstNonSpaceSpec)

/-- ITS FALSE NEIGHBOUR: 'it returns false'. Refute it at one input. -/
def fnSkipSpaceLandsOnFirstNonSpaceWrong : ChangeSpec := { name := "fnSkipSpaceLandsOnFirstNonSpace", fn := fun _ => fun
  | [d1, d2] => { results := [.lit (.bool false)], args := [d1, d2] }
  | _ => none }
def FnSkipSpaceLandsOnFirstNonSpaceWrongFalsely : Prop := fnSkipSpaceLandsOnFirstNonSpaceRow.holds Try.pinned (OpenSpec.ofChange fnSkipSpaceLandsOnFirstNonSpaceWrong)

/-- 'zzlaws_internal_strictjson_b1.FnSkipSpaceIsIdempotent': WHATEVER THE INPUT: true; the input reads as it did. -/
def fnSkipSpaceIsIdempotentSpec : ChangeSpec := { name := "fnSkipSpaceIsIdempotent", fn := fun _ => fun
  | [d1, d2] => { results := [.lit (.bool true)], args := [d1, d2] }
  | _ => none }
def fnSkipSpaceIsIdempotentRow : OpenClaim := { program := "qxb6600580a", sum := "e05d25a9791907e3535d321025cadf9bb52804d11d07274ba4355245a026bed1", func := "example.com/provenant/provenant/zzlaws_internal_strictjson_b1.FnSkipSpaceIsIdempotent", spec := "fnSkipSpaceIsIdempotent", apart := false }
def FnSkipSpaceIsIdempotentSaid : Prop := fnSkipSpaceIsIdempotentRow.holds Try.pinned (OpenSpec.ofChange fnSkipSpaceIsIdempotentSpec)

/-- ITS FALSE NEIGHBOUR: 'it returns false'. Refute it at one input. -/
def fnSkipSpaceIsIdempotentWrong : ChangeSpec := { name := "fnSkipSpaceIsIdempotent", fn := fun _ => fun
  | [d1, d2] => { results := [.lit (.bool false)], args := [d1, d2] }
  | _ => none }
def FnSkipSpaceIsIdempotentWrongFalsely : Prop := fnSkipSpaceIsIdempotentRow.holds Try.pinned (OpenSpec.ofChange fnSkipSpaceIsIdempotentWrong)

/-- 'zzlaws_internal_strictjson_b1.FnSkipSpaceIsMonotoneInStart': WHATEVER THE INPUT: true; the input reads as it did. -/
def fnSkipSpaceIsMonotoneInStartSpec : ChangeSpec := { name := "fnSkipSpaceIsMonotoneInStart", fn := fun _ => fun
  | [d1, d2, d3] => { results := [.lit (.bool true)], args := [d1, d2, d3] }
  | _ => none }
def fnSkipSpaceIsMonotoneInStartRow : OpenClaim := { program := "qxb6600580a", sum := "e05d25a9791907e3535d321025cadf9bb52804d11d07274ba4355245a026bed1", func := "example.com/provenant/provenant/zzlaws_internal_strictjson_b1.FnSkipSpaceIsMonotoneInStart", spec := "fnSkipSpaceIsMonotoneInStart", apart := false }
def FnSkipSpaceIsMonotoneInStartSaid : Prop := fnSkipSpaceIsMonotoneInStartRow.holds Try.pinned (OpenSpec.ofChange fnSkipSpaceIsMonotoneInStartSpec)

/-- ITS FALSE NEIGHBOUR: 'it returns false'. Refute it at one input. -/
def fnSkipSpaceIsMonotoneInStartWrong : ChangeSpec := { name := "fnSkipSpaceIsMonotoneInStart", fn := fun _ => fun
  | [d1, d2, d3] => { results := [.lit (.bool false)], args := [d1, d2, d3] }
  | _ => none }
def FnSkipSpaceIsMonotoneInStartWrongFalsely : Prop := fnSkipSpaceIsMonotoneInStartRow.holds Try.pinned (OpenSpec.ofChange fnSkipSpaceIsMonotoneInStartWrong)

/-- 'zzlaws_internal_strictjson_b1.FnDigitsConsumesExactlyTheDigitRun': WHATEVER THE INPUT: true; the input reads as it did. -/
def fnDigitsConsumesExactlyTheDigitRunSpec : ChangeSpec := { name := "fnDigitsConsumesExactlyTheDigitRun", fn := fun _ => fun
  | [d1, d2] => { results := [.lit (.bool true)], args := [d1, d2] }
  | _ => none }
def fnDigitsConsumesExactlyTheDigitRunRow : OpenClaim := { program := "qxb6600580a", sum := "e05d25a9791907e3535d321025cadf9bb52804d11d07274ba4355245a026bed1", func := "example.com/provenant/provenant/zzlaws_internal_strictjson_b1.FnDigitsConsumesExactlyTheDigitRun", spec := "fnDigitsConsumesExactlyTheDigitRun", apart := false }
def FnDigitsConsumesExactlyTheDigitRunSaid : Prop := fnDigitsConsumesExactlyTheDigitRunRow.holds Try.pinned (OpenSpec.ofChange fnDigitsConsumesExactlyTheDigitRunSpec)

/-- ITS FALSE NEIGHBOUR: 'it returns false'. Refute it at one input. -/
def fnDigitsConsumesExactlyTheDigitRunWrong : ChangeSpec := { name := "fnDigitsConsumesExactlyTheDigitRun", fn := fun _ => fun
  | [d1, d2] => { results := [.lit (.bool false)], args := [d1, d2] }
  | _ => none }
def FnDigitsConsumesExactlyTheDigitRunWrongFalsely : Prop := fnDigitsConsumesExactlyTheDigitRunRow.holds Try.pinned (OpenSpec.ofChange fnDigitsConsumesExactlyTheDigitRunWrong)

/-- 'zzlaws_internal_strictjson_b1.FnDigitsCountsAWrittenNumeral': WHATEVER THE INPUT: true; the input reads as it did. -/
def fnDigitsCountsAWrittenNumeralSpec : ChangeSpec := { name := "fnDigitsCountsAWrittenNumeral", fn := fun _ => fun
  | [d1, d2, d3] => { results := [.lit (.bool true)], args := [d1, d2, d3] }
  | _ => none }
def fnDigitsCountsAWrittenNumeralRow : OpenClaim := { program := "qxb6600580a", sum := "e05d25a9791907e3535d321025cadf9bb52804d11d07274ba4355245a026bed1", func := "example.com/provenant/provenant/zzlaws_internal_strictjson_b1.FnDigitsCountsAWrittenNumeral", spec := "fnDigitsCountsAWrittenNumeral", apart := false }
def FnDigitsCountsAWrittenNumeralSaid : Prop := fnDigitsCountsAWrittenNumeralRow.holds Try.pinned (OpenSpec.ofChange fnDigitsCountsAWrittenNumeralSpec)

/-- ITS FALSE NEIGHBOUR: 'it returns false'. Refute it at one input. -/
def fnDigitsCountsAWrittenNumeralWrong : ChangeSpec := { name := "fnDigitsCountsAWrittenNumeral", fn := fun _ => fun
  | [d1, d2, d3] => { results := [.lit (.bool false)], args := [d1, d2, d3] }
  | _ => none }
def FnDigitsCountsAWrittenNumeralWrongFalsely : Prop := fnDigitsCountsAWrittenNumeralRow.holds Try.pinned (OpenSpec.ofChange fnDigitsCountsAWrittenNumeralWrong)

/-- 'zzlaws_internal_strictjson_b1.FnRepeatsFlagsExactlyLaterOccurrences': WHATEVER THE INPUT: true; the input reads as it did. -/
def fnRepeatsFlagsExactlyLaterOccurrencesSpec : ChangeSpec := { name := "fnRepeatsFlagsExactlyLaterOccurrences", fn := fun _ => fun
  | [d] => { results := [.lit (.bool true)], args := [d] }
  | _ => none }
def fnRepeatsFlagsExactlyLaterOccurrencesRow : OpenClaim := { program := "qxb6600580a", sum := "e05d25a9791907e3535d321025cadf9bb52804d11d07274ba4355245a026bed1", func := "example.com/provenant/provenant/zzlaws_internal_strictjson_b1.FnRepeatsFlagsExactlyLaterOccurrences", spec := "fnRepeatsFlagsExactlyLaterOccurrences", apart := false }
def FnRepeatsFlagsExactlyLaterOccurrencesSaid : Prop := fnRepeatsFlagsExactlyLaterOccurrencesRow.holds Try.pinned (OpenSpec.ofChange fnRepeatsFlagsExactlyLaterOccurrencesSpec)

/-- ITS FALSE NEIGHBOUR: 'it returns false'. Refute it at one input. -/
def fnRepeatsFlagsExactlyLaterOccurrencesWrong : ChangeSpec := { name := "fnRepeatsFlagsExactlyLaterOccurrences", fn := fun _ => fun
  | [d] => { results := [.lit (.bool false)], args := [d] }
  | _ => none }
def FnRepeatsFlagsExactlyLaterOccurrencesWrongFalsely : Prop := fnRepeatsFlagsExactlyLaterOccurrencesRow.holds Try.pinned (OpenSpec.ofChange fnRepeatsFlagsExactlyLaterOccurrencesWrong)

/-- 'zzlaws_internal_strictjson_b1.FnRepeatsFromEmptySetIsMembership': WHATEVER THE INPUT: true; the input reads as it did. -/
def fnRepeatsFromEmptySetIsMembershipSpec : ChangeSpec := { name := "fnRepeatsFromEmptySetIsMembership", fn := fun _ => fun
  | [d1, d2] => { results := [.lit (.bool true)], args := [d1, d2] }
  | _ => none }
def fnRepeatsFromEmptySetIsMembershipRow : OpenClaim := { program := "qxb6600580a", sum := "e05d25a9791907e3535d321025cadf9bb52804d11d07274ba4355245a026bed1", func := "example.com/provenant/provenant/zzlaws_internal_strictjson_b1.FnRepeatsFromEmptySetIsMembership", spec := "fnRepeatsFromEmptySetIsMembership", apart := false }
def FnRepeatsFromEmptySetIsMembershipSaid : Prop := fnRepeatsFromEmptySetIsMembershipRow.holds Try.pinned (OpenSpec.ofChange fnRepeatsFromEmptySetIsMembershipSpec)

/-- ITS FALSE NEIGHBOUR: 'it returns false'. Refute it at one input. -/
def fnRepeatsFromEmptySetIsMembershipWrong : ChangeSpec := { name := "fnRepeatsFromEmptySetIsMembership", fn := fun _ => fun
  | [d1, d2] => { results := [.lit (.bool false)], args := [d1, d2] }
  | _ => none }
def FnRepeatsFromEmptySetIsMembershipWrongFalsely : Prop := fnRepeatsFromEmptySetIsMembershipRow.holds Try.pinned (OpenSpec.ofChange fnRepeatsFromEmptySetIsMembershipWrong)

end Rows
end Go.Proofs.Qxb6600580a
