/-
  No cell of these rows narrows 'for every input' (looked for: loops, veiled, ifaces, maps, wideKeys, modest, calm, conditions, laid).
  DERIVED. THE GIVEN ROWS OF THIS SEAT. 8 by the template 'for every input the law returns true; each argument reads behind the call as it read before'; 0 by the template 'total and deterministic' (their statements: Qxb6001664aTotals.lean).
  GIVEN WITH THE SEED: the statements are not yours to turn. If you find one false, say at which input.
  Laid BY PROGRAM, IN A SANDBOX (cutbox-rows.mjs): the forced cells as the released guide's own fill.sh prints them over the translation 969d5011cd7eb44d… (all of the seat's roots in one cut). By AI agents, Wed Nov 11 2026. No macro, syntax, notation, axiom, sorry.
-/
import Derived.Test.Qxb6001664aChecked
import GoSem.Claim
import GoSem.ClaimJoined
import GoSem.ClaimMapViews
import Derived.JoinedTies
import Derived.KernelRfl
namespace Go.Proofs.Qxb6001664a
/- THE CELL 'sum', in the pinned program and in every row, IS THE sha256 OF THE DUMP (.gsa) THAT Qxb6001664aProg.lean LOADS. Nothing in Lean hashes anything: it is a label: what it is worth is what the hold of that sum in a sandbox is worth. -/
noncomputable def Try.pinned : Pinned := { name := "qxb6001664a", sum := "969d5011cd7eb44d3b2df7f4813403436e721878900beab2f61983f95adea378", checked := Try.checked }
namespace Rows
def none {H : Type} : Left H := { results := [], args := [] }

/-- 'zzlaws_declaration_g1.FnReferredLabelsFirstOccurrences': WHATEVER THE INPUT: true; the input reads as it did. -/
def fnReferredLabelsFirstOccurrencesSpec : ChangeSpec := { name := "fnReferredLabelsFirstOccurrences", fn := fun _ => fun
  | [d1, d2] => { results := [.lit (.bool true)], args := [d1, d2] }
  | _ => none }
def fnReferredLabelsFirstOccurrencesRow : OpenClaim := { program := "qxb6001664a", sum := "969d5011cd7eb44d3b2df7f4813403436e721878900beab2f61983f95adea378", func := "example.com/ferrule/ferrule/zzlaws_declaration_g1.FnReferredLabelsFirstOccurrences", spec := "fnReferredLabelsFirstOccurrences", apart := false }
def FnReferredLabelsFirstOccurrencesSaid : Prop := fnReferredLabelsFirstOccurrencesRow.holds Try.pinned (OpenSpec.ofChange fnReferredLabelsFirstOccurrencesSpec)

/-- ITS FALSE NEIGHBOUR: 'it returns false'. Refute it at one input. -/
def fnReferredLabelsFirstOccurrencesWrong : ChangeSpec := { name := "fnReferredLabelsFirstOccurrences", fn := fun _ => fun
  | [d1, d2] => { results := [.lit (.bool false)], args := [d1, d2] }
  | _ => none }
def FnReferredLabelsFirstOccurrencesWrongFalsely : Prop := fnReferredLabelsFirstOccurrencesRow.holds Try.pinned (OpenSpec.ofChange fnReferredLabelsFirstOccurrencesWrong)

/-- 'zzlaws_declaration_g1.FnUndeclaredIsReferredMinusDeclared': WHATEVER THE INPUT: true; the input reads as it did. -/
def fnUndeclaredIsReferredMinusDeclaredSpec : ChangeSpec := { name := "fnUndeclaredIsReferredMinusDeclared", fn := fun _ => fun
  | [d1, d2, d3, d4] => { results := [.lit (.bool true)], args := [d1, d2, d3, d4] }
  | _ => none }
def fnUndeclaredIsReferredMinusDeclaredRow : OpenClaim := { program := "qxb6001664a", sum := "969d5011cd7eb44d3b2df7f4813403436e721878900beab2f61983f95adea378", func := "example.com/ferrule/ferrule/zzlaws_declaration_g1.FnUndeclaredIsReferredMinusDeclared", spec := "fnUndeclaredIsReferredMinusDeclared", apart := false }
def FnUndeclaredIsReferredMinusDeclaredSaid : Prop := fnUndeclaredIsReferredMinusDeclaredRow.holds Try.pinned (OpenSpec.ofChange fnUndeclaredIsReferredMinusDeclaredSpec)

/-- ITS FALSE NEIGHBOUR: 'it returns false'. Refute it at one input. -/
def fnUndeclaredIsReferredMinusDeclaredWrong : ChangeSpec := { name := "fnUndeclaredIsReferredMinusDeclared", fn := fun _ => fun
  | [d1, d2, d3, d4] => { results := [.lit (.bool false)], args := [d1, d2, d3, d4] }
  | _ => none }
def FnUndeclaredIsReferredMinusDeclaredWrongFalsely : Prop := fnUndeclaredIsReferredMinusDeclaredRow.holds Try.pinned (OpenSpec.ofChange fnUndeclaredIsReferredMinusDeclaredWrong)

/-- 'zzlaws_jsonpath_g1.FnSkipDigitsMaximalRun': WHATEVER THE INPUT: true; the input reads as it did. -/
def fnSkipDigitsMaximalRunSpec : ChangeSpec := { name := "fnSkipDigitsMaximalRun", fn := fun _ => fun
  | [d1, d2, d3] => { results := [.lit (.bool true)], args := [d1, d2, d3] }
  | _ => none }
def fnSkipDigitsMaximalRunRow : OpenClaim := { program := "qxb6001664a", sum := "969d5011cd7eb44d3b2df7f4813403436e721878900beab2f61983f95adea378", func := "example.com/ferrule/ferrule/zzlaws_jsonpath_g1.FnSkipDigitsMaximalRun", spec := "fnSkipDigitsMaximalRun", apart := false }
def FnSkipDigitsMaximalRunSaid : Prop := fnSkipDigitsMaximalRunRow.holds Try.pinned (OpenSpec.ofChange fnSkipDigitsMaximalRunSpec)

/-- ITS FALSE NEIGHBOUR: 'it returns false'. Refute it at one input. -/
def fnSkipDigitsMaximalRunWrong : ChangeSpec := { name := "fnSkipDigitsMaximalRun", fn := fun _ => fun
  | [d1, d2, d3] => { results := [.lit (.bool false)], args := [d1, d2, d3] }
  | _ => none }
def FnSkipDigitsMaximalRunWrongFalsely : Prop := fnSkipDigitsMaximalRunRow.holds Try.pinned (OpenSpec.ofChange fnSkipDigitsMaximalRunWrong)

/-- 'zzlaws_jsonpath_g1.FnSkipDigitsPrefixAgreement': WHATEVER THE INPUT: true; the input reads as it did. -/
def fnSkipDigitsPrefixAgreementSpec : ChangeSpec := { name := "fnSkipDigitsPrefixAgreement", fn := fun _ => fun
  | [d1, d2, d3] => { results := [.lit (.bool true)], args := [d1, d2, d3] }
  | _ => none }
def fnSkipDigitsPrefixAgreementRow : OpenClaim := { program := "qxb6001664a", sum := "969d5011cd7eb44d3b2df7f4813403436e721878900beab2f61983f95adea378", func := "example.com/ferrule/ferrule/zzlaws_jsonpath_g1.FnSkipDigitsPrefixAgreement", spec := "fnSkipDigitsPrefixAgreement", apart := false }
def FnSkipDigitsPrefixAgreementSaid : Prop := fnSkipDigitsPrefixAgreementRow.holds Try.pinned (OpenSpec.ofChange fnSkipDigitsPrefixAgreementSpec)

/-- ITS FALSE NEIGHBOUR: 'it returns false'. Refute it at one input. -/
def fnSkipDigitsPrefixAgreementWrong : ChangeSpec := { name := "fnSkipDigitsPrefixAgreement", fn := fun _ => fun
  | [d1, d2, d3] => { results := [.lit (.bool false)], args := [d1, d2, d3] }
  | _ => none }
def FnSkipDigitsPrefixAgreementWrongFalsely : Prop := fnSkipDigitsPrefixAgreementRow.holds Try.pinned (OpenSpec.ofChange fnSkipDigitsPrefixAgreementWrong)

/-- 'zzlaws_redact_g1.FnListedReplacesOrAppends': WHATEVER THE INPUT: true; the input reads as it did. -/
def fnListedReplacesOrAppendsSpec : ChangeSpec := { name := "fnListedReplacesOrAppends", fn := fun _ => fun
  | [d1, d2, d3] => { results := [.lit (.bool true)], args := [d1, d2, d3] }
  | _ => none }
def fnListedReplacesOrAppendsRow : OpenClaim := { program := "qxb6001664a", sum := "969d5011cd7eb44d3b2df7f4813403436e721878900beab2f61983f95adea378", func := "example.com/ferrule/ferrule/zzlaws_redact_g1.FnListedReplacesOrAppends", spec := "fnListedReplacesOrAppends", apart := false }
def FnListedReplacesOrAppendsSaid : Prop := fnListedReplacesOrAppendsRow.holds Try.pinned (OpenSpec.ofChange fnListedReplacesOrAppendsSpec)

/-- ITS FALSE NEIGHBOUR: 'it returns false'. Refute it at one input. -/
def fnListedReplacesOrAppendsWrong : ChangeSpec := { name := "fnListedReplacesOrAppends", fn := fun _ => fun
  | [d1, d2, d3] => { results := [.lit (.bool false)], args := [d1, d2, d3] }
  | _ => none }
def FnListedReplacesOrAppendsWrongFalsely : Prop := fnListedReplacesOrAppendsRow.holds Try.pinned (OpenSpec.ofChange fnListedReplacesOrAppendsWrong)

/-- 'zzlaws_redact_g1.FnShareMatchesBitModel': WHATEVER THE INPUT: true; the input reads as it did. -/
def fnShareMatchesBitModelSpec : ChangeSpec := { name := "fnShareMatchesBitModel", fn := fun _ => fun
  | [d1, d2] => { results := [.lit (.bool true)], args := [d1, d2] }
  | _ => none }
def fnShareMatchesBitModelRow : OpenClaim := { program := "qxb6001664a", sum := "969d5011cd7eb44d3b2df7f4813403436e721878900beab2f61983f95adea378", func := "example.com/ferrule/ferrule/zzlaws_redact_g1.FnShareMatchesBitModel", spec := "fnShareMatchesBitModel", apart := false }
def FnShareMatchesBitModelSaid : Prop := fnShareMatchesBitModelRow.holds Try.pinned (OpenSpec.ofChange fnShareMatchesBitModelSpec)

/-- ITS FALSE NEIGHBOUR: 'it returns false'. Refute it at one input. -/
def fnShareMatchesBitModelWrong : ChangeSpec := { name := "fnShareMatchesBitModel", fn := fun _ => fun
  | [d1, d2] => { results := [.lit (.bool false)], args := [d1, d2] }
  | _ => none }
def FnShareMatchesBitModelWrongFalsely : Prop := fnShareMatchesBitModelRow.holds Try.pinned (OpenSpec.ofChange fnShareMatchesBitModelWrong)

/-- 'zzlaws_redact_g1.FnSpanTakesWholeBackslashRuns': WHATEVER THE INPUT: true; the input reads as it did. -/
def fnSpanTakesWholeBackslashRunsSpec : ChangeSpec := { name := "fnSpanTakesWholeBackslashRuns", fn := fun _ => fun
  | [d1, d2, d3] => { results := [.lit (.bool true)], args := [d1, d2, d3] }
  | _ => none }
def fnSpanTakesWholeBackslashRunsRow : OpenClaim := { program := "qxb6001664a", sum := "969d5011cd7eb44d3b2df7f4813403436e721878900beab2f61983f95adea378", func := "example.com/ferrule/ferrule/zzlaws_redact_g1.FnSpanTakesWholeBackslashRuns", spec := "fnSpanTakesWholeBackslashRuns", apart := false }
def FnSpanTakesWholeBackslashRunsSaid : Prop := fnSpanTakesWholeBackslashRunsRow.holds Try.pinned (OpenSpec.ofChange fnSpanTakesWholeBackslashRunsSpec)

/-- ITS FALSE NEIGHBOUR: 'it returns false'. Refute it at one input. -/
def fnSpanTakesWholeBackslashRunsWrong : ChangeSpec := { name := "fnSpanTakesWholeBackslashRuns", fn := fun _ => fun
  | [d1, d2, d3] => { results := [.lit (.bool false)], args := [d1, d2, d3] }
  | _ => none }
def FnSpanTakesWholeBackslashRunsWrongFalsely : Prop := fnSpanTakesWholeBackslashRunsRow.holds Try.pinned (OpenSpec.ofChange fnSpanTakesWholeBackslashRunsWrong)

/-- 'zzlaws_redact_g1.FnSpanHexEscapeEitherCase': WHATEVER THE INPUT: true; the input reads as it did. -/
def fnSpanHexEscapeEitherCaseSpec : ChangeSpec := { name := "fnSpanHexEscapeEitherCase", fn := fun _ => fun
  | [d1, d2, d3, d4] => { results := [.lit (.bool true)], args := [d1, d2, d3, d4] }
  | _ => none }
def fnSpanHexEscapeEitherCaseRow : OpenClaim := { program := "qxb6001664a", sum := "969d5011cd7eb44d3b2df7f4813403436e721878900beab2f61983f95adea378", func := "example.com/ferrule/ferrule/zzlaws_redact_g1.FnSpanHexEscapeEitherCase", spec := "fnSpanHexEscapeEitherCase", apart := false }
def FnSpanHexEscapeEitherCaseSaid : Prop := fnSpanHexEscapeEitherCaseRow.holds Try.pinned (OpenSpec.ofChange fnSpanHexEscapeEitherCaseSpec)

/-- ITS FALSE NEIGHBOUR: 'it returns false'. Refute it at one input. -/
def fnSpanHexEscapeEitherCaseWrong : ChangeSpec := { name := "fnSpanHexEscapeEitherCase", fn := fun _ => fun
  | [d1, d2, d3, d4] => { results := [.lit (.bool false)], args := [d1, d2, d3, d4] }
  | _ => none }
def FnSpanHexEscapeEitherCaseWrongFalsely : Prop := fnSpanHexEscapeEitherCaseRow.holds Try.pinned (OpenSpec.ofChange fnSpanHexEscapeEitherCaseWrong)

end Rows
end Go.Proofs.Qxb6001664a
