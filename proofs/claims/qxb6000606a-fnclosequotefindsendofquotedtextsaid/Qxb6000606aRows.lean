/-
  No cell of these rows narrows 'for every input' (looked for: loops, veiled, ifaces, maps, wideKeys, modest, calm, conditions, laid).
  DERIVED. THE GIVEN ROWS OF THIS SEAT. 9 by the template 'for every input the law returns true; each argument reads behind the call as it read before'; 0 by the template 'total and deterministic' (their statements: Qxb6000606aTotals.lean).
  GIVEN WITH THE SEED: the statements are not yours to turn. If you find one false, say at which input.
  Laid BY PROGRAM, IN A SANDBOX (cutbox-rows.mjs): the forced cells as the released guide's own fill.sh prints them over the translation 884de54801360ec7… (all of the seat's roots in one cut). By AI agents, Wed Nov 11 2026. No macro, syntax, notation, axiom, sorry.
-/
import Derived.Test.Qxb6000606aChecked
import GoSem.Claim
import GoSem.ClaimJoined
import GoSem.ClaimMapViews
import Derived.JoinedTies
import Derived.KernelRfl
namespace Go.Proofs.Qxb6000606a
/- THE CELL 'sum', in the pinned program and in every row, IS THE sha256 OF THE DUMP (.gsa) THAT Qxb6000606aProg.lean LOADS. Nothing in Lean hashes anything: it is a label: what it is worth is what the hold of that sum in a sandbox is worth. -/
noncomputable def Try.pinned : Pinned := { name := "qxb6000606a", sum := "884de54801360ec76eca55ceddbb6bb7374a6a90cf644374899907318e784759", checked := Try.checked }
namespace Rows
def none {H : Type} : Left H := { results := [], args := [] }

/-- 'zzlaws_internal_lex_b1.FnNumberEndMatchesLongestNumberAutomaton': WHATEVER THE INPUT: true; the input reads as it did. -/
def fnNumberEndMatchesLongestNumberAutomatonSpec : ChangeSpec := { name := "fnNumberEndMatchesLongestNumberAutomaton", fn := fun _ => fun
  | [d1, d2] => { results := [.lit (.bool true)], args := [d1, d2] }
  | _ => none }
def fnNumberEndMatchesLongestNumberAutomatonRow : OpenClaim := { program := "qxb6000606a", sum := "884de54801360ec76eca55ceddbb6bb7374a6a90cf644374899907318e784759", func := "operandarbiter.example/arbiter/zzlaws_internal_lex_b1.FnNumberEndMatchesLongestNumberAutomaton", spec := "fnNumberEndMatchesLongestNumberAutomaton", apart := false }
def FnNumberEndMatchesLongestNumberAutomatonSaid : Prop := fnNumberEndMatchesLongestNumberAutomatonRow.holds Try.pinned (OpenSpec.ofChange fnNumberEndMatchesLongestNumberAutomatonSpec)

/-- ITS FALSE NEIGHBOUR: 'it returns false'. Refute it at one input. -/
def fnNumberEndMatchesLongestNumberAutomatonWrong : ChangeSpec := { name := "fnNumberEndMatchesLongestNumberAutomaton", fn := fun _ => fun
  | [d1, d2] => { results := [.lit (.bool false)], args := [d1, d2] }
  | _ => none }
def FnNumberEndMatchesLongestNumberAutomatonWrongFalsely : Prop := fnNumberEndMatchesLongestNumberAutomatonRow.holds Try.pinned (OpenSpec.ofChange fnNumberEndMatchesLongestNumberAutomatonWrong)

/-- 'zzlaws_internal_lex_b1.FnNumberEndStaysWithinAndDependsOnlyOnItsConstant': WHATEVER THE INPUT: true; the input reads as it did. -/
def fnNumberEndStaysWithinAndDependsOnlyOnItsConstantSpec : ChangeSpec := { name := "fnNumberEndStaysWithinAndDependsOnlyOnItsConstant", fn := fun _ => fun
  | [d1, d2] => { results := [.lit (.bool true)], args := [d1, d2] }
  | _ => none }
def fnNumberEndStaysWithinAndDependsOnlyOnItsConstantRow : OpenClaim := { program := "qxb6000606a", sum := "884de54801360ec76eca55ceddbb6bb7374a6a90cf644374899907318e784759", func := "operandarbiter.example/arbiter/zzlaws_internal_lex_b1.FnNumberEndStaysWithinAndDependsOnlyOnItsConstant", spec := "fnNumberEndStaysWithinAndDependsOnlyOnItsConstant", apart := false }
def FnNumberEndStaysWithinAndDependsOnlyOnItsConstantSaid : Prop := fnNumberEndStaysWithinAndDependsOnlyOnItsConstantRow.holds Try.pinned (OpenSpec.ofChange fnNumberEndStaysWithinAndDependsOnlyOnItsConstantSpec)

/-- ITS FALSE NEIGHBOUR: 'it returns false'. Refute it at one input. -/
def fnNumberEndStaysWithinAndDependsOnlyOnItsConstantWrong : ChangeSpec := { name := "fnNumberEndStaysWithinAndDependsOnlyOnItsConstant", fn := fun _ => fun
  | [d1, d2] => { results := [.lit (.bool false)], args := [d1, d2] }
  | _ => none }
def FnNumberEndStaysWithinAndDependsOnlyOnItsConstantWrongFalsely : Prop := fnNumberEndStaysWithinAndDependsOnlyOnItsConstantRow.holds Try.pinned (OpenSpec.ofChange fnNumberEndStaysWithinAndDependsOnlyOnItsConstantWrong)

/-- 'zzlaws_internal_lex_b1.FnNumberEndAgreesWithSkipDigits': WHATEVER THE INPUT: true; the input reads as it did. -/
def fnNumberEndAgreesWithSkipDigitsSpec : ChangeSpec := { name := "fnNumberEndAgreesWithSkipDigits", fn := fun _ => fun
  | [d1, d2] => { results := [.lit (.bool true)], args := [d1, d2] }
  | _ => none }
def fnNumberEndAgreesWithSkipDigitsRow : OpenClaim := { program := "qxb6000606a", sum := "884de54801360ec76eca55ceddbb6bb7374a6a90cf644374899907318e784759", func := "operandarbiter.example/arbiter/zzlaws_internal_lex_b1.FnNumberEndAgreesWithSkipDigits", spec := "fnNumberEndAgreesWithSkipDigits", apart := false }
def FnNumberEndAgreesWithSkipDigitsSaid : Prop := fnNumberEndAgreesWithSkipDigitsRow.holds Try.pinned (OpenSpec.ofChange fnNumberEndAgreesWithSkipDigitsSpec)

/-- ITS FALSE NEIGHBOUR: 'it returns false'. Refute it at one input. -/
def fnNumberEndAgreesWithSkipDigitsWrong : ChangeSpec := { name := "fnNumberEndAgreesWithSkipDigits", fn := fun _ => fun
  | [d1, d2] => { results := [.lit (.bool false)], args := [d1, d2] }
  | _ => none }
def FnNumberEndAgreesWithSkipDigitsWrongFalsely : Prop := fnNumberEndAgreesWithSkipDigitsRow.holds Try.pinned (OpenSpec.ofChange fnNumberEndAgreesWithSkipDigitsWrong)

/-- 'zzlaws_internal_lex_b1.FnSkipDigitsStopsAtFirstNonDigit': WHATEVER THE INPUT: true; the input reads as it did. -/
def fnSkipDigitsStopsAtFirstNonDigitSpec : ChangeSpec := { name := "fnSkipDigitsStopsAtFirstNonDigit", fn := fun _ => fun
  | [d1, d2] => { results := [.lit (.bool true)], args := [d1, d2] }
  | _ => none }
def fnSkipDigitsStopsAtFirstNonDigitRow : OpenClaim := { program := "qxb6000606a", sum := "884de54801360ec76eca55ceddbb6bb7374a6a90cf644374899907318e784759", func := "operandarbiter.example/arbiter/zzlaws_internal_lex_b1.FnSkipDigitsStopsAtFirstNonDigit", spec := "fnSkipDigitsStopsAtFirstNonDigit", apart := false }
def FnSkipDigitsStopsAtFirstNonDigitSaid : Prop := fnSkipDigitsStopsAtFirstNonDigitRow.holds Try.pinned (OpenSpec.ofChange fnSkipDigitsStopsAtFirstNonDigitSpec)

/-- ITS FALSE NEIGHBOUR: 'it returns false'. Refute it at one input. -/
def fnSkipDigitsStopsAtFirstNonDigitWrong : ChangeSpec := { name := "fnSkipDigitsStopsAtFirstNonDigit", fn := fun _ => fun
  | [d1, d2] => { results := [.lit (.bool false)], args := [d1, d2] }
  | _ => none }
def FnSkipDigitsStopsAtFirstNonDigitWrongFalsely : Prop := fnSkipDigitsStopsAtFirstNonDigitRow.holds Try.pinned (OpenSpec.ofChange fnSkipDigitsStopsAtFirstNonDigitWrong)

/-- 'zzlaws_internal_lex_b1.FnSkipDigitsSameEndFromInsideTheRun': WHATEVER THE INPUT: true; the input reads as it did. -/
def fnSkipDigitsSameEndFromInsideTheRunSpec : ChangeSpec := { name := "fnSkipDigitsSameEndFromInsideTheRun", fn := fun _ => fun
  | [d1, d2, d3] => { results := [.lit (.bool true)], args := [d1, d2, d3] }
  | _ => none }
def fnSkipDigitsSameEndFromInsideTheRunRow : OpenClaim := { program := "qxb6000606a", sum := "884de54801360ec76eca55ceddbb6bb7374a6a90cf644374899907318e784759", func := "operandarbiter.example/arbiter/zzlaws_internal_lex_b1.FnSkipDigitsSameEndFromInsideTheRun", spec := "fnSkipDigitsSameEndFromInsideTheRun", apart := false }
def FnSkipDigitsSameEndFromInsideTheRunSaid : Prop := fnSkipDigitsSameEndFromInsideTheRunRow.holds Try.pinned (OpenSpec.ofChange fnSkipDigitsSameEndFromInsideTheRunSpec)

/-- ITS FALSE NEIGHBOUR: 'it returns false'. Refute it at one input. -/
def fnSkipDigitsSameEndFromInsideTheRunWrong : ChangeSpec := { name := "fnSkipDigitsSameEndFromInsideTheRun", fn := fun _ => fun
  | [d1, d2, d3] => { results := [.lit (.bool false)], args := [d1, d2, d3] }
  | _ => none }
def FnSkipDigitsSameEndFromInsideTheRunWrongFalsely : Prop := fnSkipDigitsSameEndFromInsideTheRunRow.holds Try.pinned (OpenSpec.ofChange fnSkipDigitsSameEndFromInsideTheRunWrong)

/-- 'zzlaws_internal_lex_b1.FnSkipDigitsShiftAndTruncate': WHATEVER THE INPUT: true; the input reads as it did. -/
def fnSkipDigitsShiftAndTruncateSpec : ChangeSpec := { name := "fnSkipDigitsShiftAndTruncate", fn := fun _ => fun
  | [d1, d2] => { results := [.lit (.bool true)], args := [d1, d2] }
  | _ => none }
def fnSkipDigitsShiftAndTruncateRow : OpenClaim := { program := "qxb6000606a", sum := "884de54801360ec76eca55ceddbb6bb7374a6a90cf644374899907318e784759", func := "operandarbiter.example/arbiter/zzlaws_internal_lex_b1.FnSkipDigitsShiftAndTruncate", spec := "fnSkipDigitsShiftAndTruncate", apart := false }
def FnSkipDigitsShiftAndTruncateSaid : Prop := fnSkipDigitsShiftAndTruncateRow.holds Try.pinned (OpenSpec.ofChange fnSkipDigitsShiftAndTruncateSpec)

/-- ITS FALSE NEIGHBOUR: 'it returns false'. Refute it at one input. -/
def fnSkipDigitsShiftAndTruncateWrong : ChangeSpec := { name := "fnSkipDigitsShiftAndTruncate", fn := fun _ => fun
  | [d1, d2] => { results := [.lit (.bool false)], args := [d1, d2] }
  | _ => none }
def FnSkipDigitsShiftAndTruncateWrongFalsely : Prop := fnSkipDigitsShiftAndTruncateRow.holds Try.pinned (OpenSpec.ofChange fnSkipDigitsShiftAndTruncateWrong)

/-- 'zzlaws_internal_lex_b1.FnCloseQuoteFindsEndOfQuotedText': WHATEVER THE INPUT: true; the input reads as it did. -/
def fnCloseQuoteFindsEndOfQuotedTextSpec : ChangeSpec := { name := "fnCloseQuoteFindsEndOfQuotedText", fn := fun _ => fun
  | [d1, d2, d3, d4, d5] => { results := [.lit (.bool true)], args := [d1, d2, d3, d4, d5] }
  | _ => none }
def fnCloseQuoteFindsEndOfQuotedTextRow : OpenClaim := { program := "qxb6000606a", sum := "884de54801360ec76eca55ceddbb6bb7374a6a90cf644374899907318e784759", func := "operandarbiter.example/arbiter/zzlaws_internal_lex_b1.FnCloseQuoteFindsEndOfQuotedText", spec := "fnCloseQuoteFindsEndOfQuotedText", apart := false }
def FnCloseQuoteFindsEndOfQuotedTextSaid : Prop := fnCloseQuoteFindsEndOfQuotedTextRow.holds Try.pinned (OpenSpec.ofChange fnCloseQuoteFindsEndOfQuotedTextSpec)

/-- ITS FALSE NEIGHBOUR: 'it returns false'. Refute it at one input. -/
def fnCloseQuoteFindsEndOfQuotedTextWrong : ChangeSpec := { name := "fnCloseQuoteFindsEndOfQuotedText", fn := fun _ => fun
  | [d1, d2, d3, d4, d5] => { results := [.lit (.bool false)], args := [d1, d2, d3, d4, d5] }
  | _ => none }
def FnCloseQuoteFindsEndOfQuotedTextWrongFalsely : Prop := fnCloseQuoteFindsEndOfQuotedTextRow.holds Try.pinned (OpenSpec.ofChange fnCloseQuoteFindsEndOfQuotedTextWrong)

/-- 'zzlaws_internal_lex_b1.FnCloseQuoteEndIsAQuoteAndLocal': WHATEVER THE INPUT: true; the input reads as it did. -/
def fnCloseQuoteEndIsAQuoteAndLocalSpec : ChangeSpec := { name := "fnCloseQuoteEndIsAQuoteAndLocal", fn := fun _ => fun
  | [d1, d2, d3, d4] => { results := [.lit (.bool true)], args := [d1, d2, d3, d4] }
  | _ => none }
def fnCloseQuoteEndIsAQuoteAndLocalRow : OpenClaim := { program := "qxb6000606a", sum := "884de54801360ec76eca55ceddbb6bb7374a6a90cf644374899907318e784759", func := "operandarbiter.example/arbiter/zzlaws_internal_lex_b1.FnCloseQuoteEndIsAQuoteAndLocal", spec := "fnCloseQuoteEndIsAQuoteAndLocal", apart := false }
def FnCloseQuoteEndIsAQuoteAndLocalSaid : Prop := fnCloseQuoteEndIsAQuoteAndLocalRow.holds Try.pinned (OpenSpec.ofChange fnCloseQuoteEndIsAQuoteAndLocalSpec)

/-- ITS FALSE NEIGHBOUR: 'it returns false'. Refute it at one input. -/
def fnCloseQuoteEndIsAQuoteAndLocalWrong : ChangeSpec := { name := "fnCloseQuoteEndIsAQuoteAndLocal", fn := fun _ => fun
  | [d1, d2, d3, d4] => { results := [.lit (.bool false)], args := [d1, d2, d3, d4] }
  | _ => none }
def FnCloseQuoteEndIsAQuoteAndLocalWrongFalsely : Prop := fnCloseQuoteEndIsAQuoteAndLocalRow.holds Try.pinned (OpenSpec.ofChange fnCloseQuoteEndIsAQuoteAndLocalWrong)

/-- 'zzlaws_internal_lex_b1.FnCloseQuoteModesAgreeWithoutBackslash': WHATEVER THE INPUT: true; the input reads as it did. -/
def fnCloseQuoteModesAgreeWithoutBackslashSpec : ChangeSpec := { name := "fnCloseQuoteModesAgreeWithoutBackslash", fn := fun _ => fun
  | [d1, d2] => { results := [.lit (.bool true)], args := [d1, d2] }
  | _ => none }
def fnCloseQuoteModesAgreeWithoutBackslashRow : OpenClaim := { program := "qxb6000606a", sum := "884de54801360ec76eca55ceddbb6bb7374a6a90cf644374899907318e784759", func := "operandarbiter.example/arbiter/zzlaws_internal_lex_b1.FnCloseQuoteModesAgreeWithoutBackslash", spec := "fnCloseQuoteModesAgreeWithoutBackslash", apart := false }
def FnCloseQuoteModesAgreeWithoutBackslashSaid : Prop := fnCloseQuoteModesAgreeWithoutBackslashRow.holds Try.pinned (OpenSpec.ofChange fnCloseQuoteModesAgreeWithoutBackslashSpec)

/-- ITS FALSE NEIGHBOUR: 'it returns false'. Refute it at one input. -/
def fnCloseQuoteModesAgreeWithoutBackslashWrong : ChangeSpec := { name := "fnCloseQuoteModesAgreeWithoutBackslash", fn := fun _ => fun
  | [d1, d2] => { results := [.lit (.bool false)], args := [d1, d2] }
  | _ => none }
def FnCloseQuoteModesAgreeWithoutBackslashWrongFalsely : Prop := fnCloseQuoteModesAgreeWithoutBackslashRow.holds Try.pinned (OpenSpec.ofChange fnCloseQuoteModesAgreeWithoutBackslashWrong)

end Rows
end Go.Proofs.Qxb6000606a
