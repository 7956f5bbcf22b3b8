/-
  No cell of these rows narrows 'for every input' (looked for: loops, veiled, ifaces, maps, wideKeys, modest, calm, conditions, laid).
  DERIVED. THE GIVEN ROWS OF THIS SEAT. 7 by the template 'for every input the law returns true; each argument reads behind the call as it read before'; 0 by the template 'total and deterministic' (their statements: Qxb6600660aTotals.lean).
  GIVEN WITH THE SEED: the statements are not yours to turn. If you find one false, say at which input.
  Laid BY PROGRAM, IN A SANDBOX (cutbox-rows.mjs): the forced cells as the released guide's own fill.sh prints them over the translation 767818ab741c3774… (all of the seat's roots in one cut). By AI agents, Wed Nov 11 2026. No macro, syntax, notation, axiom, sorry.
-/
import Derived.Test.Qxb6600660aChecked
import GoSem.Claim
import GoSem.ClaimJoined
import GoSem.ClaimMapViews
import Derived.JoinedTies
import Derived.KernelRfl
namespace Go.Proofs.Qxb6600660a
/- THE CELL 'sum', in the pinned program and in every row, IS THE sha256 OF THE DUMP (.gsa) THAT Qxb6600660aProg.lean LOADS. Nothing in Lean hashes anything: it is a label: what it is worth is what the hold of that sum in a sandbox is worth. -/
noncomputable def Try.pinned : Pinned := { name := "qxb6600660a", sum := "767818ab741c37747cd055573ea9674e20023f84c600c63348ede3381b8a3f39", checked := Try.checked }
namespace Rows
def none {H : Type} : Left H := { results := [], args := [] }

/-- 'zzlaws_internal_envelope_b1.FnHex4MatchesDigitTable': WHATEVER THE INPUT: true; the input reads as it did. -/
def fnHex4MatchesDigitTableSpec : ChangeSpec := { name := "fnHex4MatchesDigitTable", fn := fun _ => fun
  | [d] => { results := [.lit (.bool true)], args := [d] }
  | _ => none }
def fnHex4MatchesDigitTableRow : OpenClaim := { program := "qxb6600660a", sum := "767818ab741c37747cd055573ea9674e20023f84c600c63348ede3381b8a3f39", func := "example.com/operactor/operactor/zzlaws_internal_envelope_b1.FnHex4MatchesDigitTable", spec := "fnHex4MatchesDigitTable", apart := false }
def FnHex4MatchesDigitTableSaid : Prop := fnHex4MatchesDigitTableRow.holds Try.pinned (OpenSpec.ofChange fnHex4MatchesDigitTableSpec)

/-- ITS FALSE NEIGHBOUR: 'it returns false'. Refute it at one input. -/
def fnHex4MatchesDigitTableWrong : ChangeSpec := { name := "fnHex4MatchesDigitTable", fn := fun _ => fun
  | [d] => { results := [.lit (.bool false)], args := [d] }
  | _ => none }
def FnHex4MatchesDigitTableWrongFalsely : Prop := fnHex4MatchesDigitTableRow.holds Try.pinned (OpenSpec.ofChange fnHex4MatchesDigitTableWrong)

/-- 'zzlaws_internal_envelope_b1.FnHex4ReadsBackFourDigits': WHATEVER THE INPUT: true; the input reads as it did. -/
def fnHex4ReadsBackFourDigitsSpec : ChangeSpec := { name := "fnHex4ReadsBackFourDigits", fn := fun _ => fun
  | [d1, d2, d3] => { results := [.lit (.bool true)], args := [d1, d2, d3] }
  | _ => none }
def fnHex4ReadsBackFourDigitsRow : OpenClaim := { program := "qxb6600660a", sum := "767818ab741c37747cd055573ea9674e20023f84c600c63348ede3381b8a3f39", func := "example.com/operactor/operactor/zzlaws_internal_envelope_b1.FnHex4ReadsBackFourDigits", spec := "fnHex4ReadsBackFourDigits", apart := false }
def FnHex4ReadsBackFourDigitsSaid : Prop := fnHex4ReadsBackFourDigitsRow.holds Try.pinned (OpenSpec.ofChange fnHex4ReadsBackFourDigitsSpec)

/-- ITS FALSE NEIGHBOUR: 'it returns false'. Refute it at one input. -/
def fnHex4ReadsBackFourDigitsWrong : ChangeSpec := { name := "fnHex4ReadsBackFourDigits", fn := fun _ => fun
  | [d1, d2, d3] => { results := [.lit (.bool false)], args := [d1, d2, d3] }
  | _ => none }
def FnHex4ReadsBackFourDigitsWrongFalsely : Prop := fnHex4ReadsBackFourDigitsRow.holds Try.pinned (OpenSpec.ofChange fnHex4ReadsBackFourDigitsWrong)

/-- 'zzlaws_internal_envelope_b1.FnNumberMatchesGrammarAutomaton': WHATEVER THE INPUT: true; the input reads as it did. -/
def fnNumberMatchesGrammarAutomatonSpec : ChangeSpec := { name := "fnNumberMatchesGrammarAutomaton", fn := fun _ => fun
  | [d1, d2] => { results := [.lit (.bool true)], args := [d1, d2] }
  | _ => none }
def fnNumberMatchesGrammarAutomatonRow : OpenClaim := { program := "qxb6600660a", sum := "767818ab741c37747cd055573ea9674e20023f84c600c63348ede3381b8a3f39", func := "example.com/operactor/operactor/zzlaws_internal_envelope_b1.FnNumberMatchesGrammarAutomaton", spec := "fnNumberMatchesGrammarAutomaton", apart := false }
def FnNumberMatchesGrammarAutomatonSaid : Prop := fnNumberMatchesGrammarAutomatonRow.holds Try.pinned (OpenSpec.ofChange fnNumberMatchesGrammarAutomatonSpec)

/-- ITS FALSE NEIGHBOUR: 'it returns false'. Refute it at one input. -/
def fnNumberMatchesGrammarAutomatonWrong : ChangeSpec := { name := "fnNumberMatchesGrammarAutomaton", fn := fun _ => fun
  | [d1, d2] => { results := [.lit (.bool false)], args := [d1, d2] }
  | _ => none }
def FnNumberMatchesGrammarAutomatonWrongFalsely : Prop := fnNumberMatchesGrammarAutomatonRow.holds Try.pinned (OpenSpec.ofChange fnNumberMatchesGrammarAutomatonWrong)

/-- 'zzlaws_internal_envelope_b1.FnNumberFindsEndOfWrittenNumber': WHATEVER THE INPUT: true; the input reads as it did. -/
def fnNumberFindsEndOfWrittenNumberSpec : ChangeSpec := { name := "fnNumberFindsEndOfWrittenNumber", fn := fun _ => fun
  | [d1, d2, d3, d4, d5, d6, d7, d8] => { results := [.lit (.bool true)], args := [d1, d2, d3, d4, d5, d6, d7, d8] }
  | _ => none }
def fnNumberFindsEndOfWrittenNumberRow : OpenClaim := { program := "qxb6600660a", sum := "767818ab741c37747cd055573ea9674e20023f84c600c63348ede3381b8a3f39", func := "example.com/operactor/operactor/zzlaws_internal_envelope_b1.FnNumberFindsEndOfWrittenNumber", spec := "fnNumberFindsEndOfWrittenNumber", apart := false }
def FnNumberFindsEndOfWrittenNumberSaid : Prop := fnNumberFindsEndOfWrittenNumberRow.holds Try.pinned (OpenSpec.ofChange fnNumberFindsEndOfWrittenNumberSpec)

/-- ITS FALSE NEIGHBOUR: 'it returns false'. Refute it at one input. -/
def fnNumberFindsEndOfWrittenNumberWrong : ChangeSpec := { name := "fnNumberFindsEndOfWrittenNumber", fn := fun _ => fun
  | [d1, d2, d3, d4, d5, d6, d7, d8] => { results := [.lit (.bool false)], args := [d1, d2, d3, d4, d5, d6, d7, d8] }
  | _ => none }
def FnNumberFindsEndOfWrittenNumberWrongFalsely : Prop := fnNumberFindsEndOfWrittenNumberRow.holds Try.pinned (OpenSpec.ofChange fnNumberFindsEndOfWrittenNumberWrong)

/-- 'zzlaws_internal_envelope_b1.FnNumberEndsOnDigitAndNeedsNothingAround': WHATEVER THE INPUT: true; the input reads as it did. -/
def fnNumberEndsOnDigitAndNeedsNothingAroundSpec : ChangeSpec := { name := "fnNumberEndsOnDigitAndNeedsNothingAround", fn := fun _ => fun
  | [d1, d2] => { results := [.lit (.bool true)], args := [d1, d2] }
  | _ => none }
def fnNumberEndsOnDigitAndNeedsNothingAroundRow : OpenClaim := { program := "qxb6600660a", sum := "767818ab741c37747cd055573ea9674e20023f84c600c63348ede3381b8a3f39", func := "example.com/operactor/operactor/zzlaws_internal_envelope_b1.FnNumberEndsOnDigitAndNeedsNothingAround", spec := "fnNumberEndsOnDigitAndNeedsNothingAround", apart := false }
def FnNumberEndsOnDigitAndNeedsNothingAroundSaid : Prop := fnNumberEndsOnDigitAndNeedsNothingAroundRow.holds Try.pinned (OpenSpec.ofChange fnNumberEndsOnDigitAndNeedsNothingAroundSpec)

/-- ITS FALSE NEIGHBOUR: 'it returns false'. Refute it at one input. -/
def fnNumberEndsOnDigitAndNeedsNothingAroundWrong : ChangeSpec := { name := "fnNumberEndsOnDigitAndNeedsNothingAround", fn := fun _ => fun
  | [d1, d2] => { results := [.lit (.bool false)], args := [d1, d2] }
  | _ => none }
def FnNumberEndsOnDigitAndNeedsNothingAroundWrongFalsely : Prop := fnNumberEndsOnDigitAndNeedsNothingAroundRow.holds Try.pinned (OpenSpec.ofChange fnNumberEndsOnDigitAndNeedsNothingAroundWrong)

/-- 'zzlaws_internal_envelope_b1.FnValueEndSpansWrittenValue': WHATEVER THE INPUT: true; the input reads as it did. -/
def fnValueEndSpansWrittenValueSpec : ChangeSpec := { name := "fnValueEndSpansWrittenValue", fn := fun _ => fun
  | [d1, d2, d3, d4] => { results := [.lit (.bool true)], args := [d1, d2, d3, d4] }
  | _ => none }
def fnValueEndSpansWrittenValueRow : OpenClaim := { program := "qxb6600660a", sum := "767818ab741c37747cd055573ea9674e20023f84c600c63348ede3381b8a3f39", func := "example.com/operactor/operactor/zzlaws_internal_envelope_b1.FnValueEndSpansWrittenValue", spec := "fnValueEndSpansWrittenValue", recurses := true, apart := false }
def FnValueEndSpansWrittenValueSaid : Prop := fnValueEndSpansWrittenValueRow.holds Try.pinned (OpenSpec.ofChange fnValueEndSpansWrittenValueSpec)

/-- ITS FALSE NEIGHBOUR: 'it returns false'. Refute it at one input. -/
def fnValueEndSpansWrittenValueWrong : ChangeSpec := { name := "fnValueEndSpansWrittenValue", fn := fun _ => fun
  | [d1, d2, d3, d4] => { results := [.lit (.bool false)], args := [d1, d2, d3, d4] }
  | _ => none }
def FnValueEndSpansWrittenValueWrongFalsely : Prop := fnValueEndSpansWrittenValueRow.holds Try.pinned (OpenSpec.ofChange fnValueEndSpansWrittenValueWrong)

/-- 'zzlaws_internal_envelope_b1.FnValueEndAgreesWithNumberBeforeDelimiter': WHATEVER THE INPUT: true; the input reads as it did. -/
def fnValueEndAgreesWithNumberBeforeDelimiterSpec : ChangeSpec := { name := "fnValueEndAgreesWithNumberBeforeDelimiter", fn := fun _ => fun
  | [d1, d2] => { results := [.lit (.bool true)], args := [d1, d2] }
  | _ => none }
def fnValueEndAgreesWithNumberBeforeDelimiterRow : OpenClaim := { program := "qxb6600660a", sum := "767818ab741c37747cd055573ea9674e20023f84c600c63348ede3381b8a3f39", func := "example.com/operactor/operactor/zzlaws_internal_envelope_b1.FnValueEndAgreesWithNumberBeforeDelimiter", spec := "fnValueEndAgreesWithNumberBeforeDelimiter", apart := false }
def FnValueEndAgreesWithNumberBeforeDelimiterSaid : Prop := fnValueEndAgreesWithNumberBeforeDelimiterRow.holds Try.pinned (OpenSpec.ofChange fnValueEndAgreesWithNumberBeforeDelimiterSpec)

/-- ITS FALSE NEIGHBOUR: 'it returns false'. Refute it at one input. -/
def fnValueEndAgreesWithNumberBeforeDelimiterWrong : ChangeSpec := { name := "fnValueEndAgreesWithNumberBeforeDelimiter", fn := fun _ => fun
  | [d1, d2] => { results := [.lit (.bool false)], args := [d1, d2] }
  | _ => none }
def FnValueEndAgreesWithNumberBeforeDelimiterWrongFalsely : Prop := fnValueEndAgreesWithNumberBeforeDelimiterRow.holds Try.pinned (OpenSpec.ofChange fnValueEndAgreesWithNumberBeforeDelimiterWrong)

end Rows
end Go.Proofs.Qxb6600660a
