/-
  No cell of these rows narrows 'for every input' (looked for: loops, veiled, ifaces, maps, wideKeys, modest, calm, conditions, laid).
  DERIVED. THE GIVEN ROWS OF THIS SEAT. 7 by the template 'for every input the law returns true; each argument reads behind the call as it read before'; 0 by the template 'total and deterministic' (their statements: Qxb6601273aTotals.lean).
  GIVEN WITH THE SEED: the statements are not yours to turn. If you find one false, say at which input.
  Laid BY PROGRAM, IN A SANDBOX (cutbox-rows.mjs): the forced cells as the released guide's own fill.sh prints them over the translation 8045eb033f4d3f94… (all of the seat's roots in one cut). By AI agents, Wed Nov 11 2026. No macro, syntax, notation, axiom, sorry.
-/
import Derived.Test.Qxb6601273aChecked
import GoSem.Claim
import GoSem.ClaimJoined
import GoSem.ClaimMapViews
import Derived.JoinedTies
import Derived.KernelRfl
namespace Go.Proofs.Qxb6601273a
/- THE CELL 'sum', in the pinned program and in every row, IS THE sha256 OF THE DUMP (.gsa) THAT Qxb6601273aProg.lean LOADS. Nothing in Lean hashes anything: it is a label: what it is worth is what the hold of that sum in a sandbox is worth. -/
noncomputable def Try.pinned : Pinned := { name := "qxb6601273a", sum := "8045eb033f4d3f94e64a11f08b2fc707b3b21d56a8767c3e4c491eaf54c79658", checked := Try.checked }
namespace Rows
def none {H : Type} : Left H := { results := [], args := [] }

/-- 'zzlaws_internal_syntax_b1.FnNumberMatchesAutomaton': WHATEVER THE INPUT: true; the input reads as it did. -/
def fnNumberMatchesAutomatonSpec : ChangeSpec := { name := "fnNumberMatchesAutomaton", fn := fun _ => fun
  | [d1, d2] => { results := [.lit (.bool true)], args := [d1, d2] }
  | _ => none }
def fnNumberMatchesAutomatonRow : OpenClaim := { program := "qxb6601273a", sum := "8045eb033f4d3f94e64a11f08b2fc707b3b21d56a8767c3e4c491eaf54c79658", func := "example.com/package-expression-evaluator/package-expression-evaluator/zzlaws_internal_syntax_b1.FnNumberMatchesAutomaton", spec := "fnNumberMatchesAutomaton", unfollowed := true, recurses := true, apart := false }
def FnNumberMatchesAutomatonSaid : Prop := fnNumberMatchesAutomatonRow.holds Try.pinned (OpenSpec.ofChange fnNumberMatchesAutomatonSpec)

/-- ITS FALSE NEIGHBOUR: 'it returns false'. Refute it at one input. -/
def fnNumberMatchesAutomatonWrong : ChangeSpec := { name := "fnNumberMatchesAutomaton", fn := fun _ => fun
  | [d1, d2] => { results := [.lit (.bool false)], args := [d1, d2] }
  | _ => none }
def FnNumberMatchesAutomatonWrongFalsely : Prop := fnNumberMatchesAutomatonRow.holds Try.pinned (OpenSpec.ofChange fnNumberMatchesAutomatonWrong)

/-- 'zzlaws_internal_syntax_b1.FnNumberRelexesOwnText': WHATEVER THE INPUT: true; the input reads as it did. -/
def fnNumberRelexesOwnTextSpec : ChangeSpec := { name := "fnNumberRelexesOwnText", fn := fun _ => fun
  | [d1, d2] => { results := [.lit (.bool true)], args := [d1, d2] }
  | _ => none }
def fnNumberRelexesOwnTextRow : OpenClaim := { program := "qxb6601273a", sum := "8045eb033f4d3f94e64a11f08b2fc707b3b21d56a8767c3e4c491eaf54c79658", func := "example.com/package-expression-evaluator/package-expression-evaluator/zzlaws_internal_syntax_b1.FnNumberRelexesOwnText", spec := "fnNumberRelexesOwnText", unfollowed := true, recurses := true, apart := false }
def FnNumberRelexesOwnTextSaid : Prop := fnNumberRelexesOwnTextRow.holds Try.pinned (OpenSpec.ofChange fnNumberRelexesOwnTextSpec)

/-- ITS FALSE NEIGHBOUR: 'it returns false'. Refute it at one input. -/
def fnNumberRelexesOwnTextWrong : ChangeSpec := { name := "fnNumberRelexesOwnText", fn := fun _ => fun
  | [d1, d2] => { results := [.lit (.bool false)], args := [d1, d2] }
  | _ => none }
def FnNumberRelexesOwnTextWrongFalsely : Prop := fnNumberRelexesOwnTextRow.holds Try.pinned (OpenSpec.ofChange fnNumberRelexesOwnTextWrong)

/-- 'zzlaws_internal_syntax_b1.FnStringPartDecodesEncodedText': WHATEVER THE INPUT: true; the input reads as it did. -/
def fnStringPartDecodesEncodedTextSpec : ChangeSpec := { name := "fnStringPartDecodesEncodedText", fn := fun _ => fun
  | [d] => { results := [.lit (.bool true)], args := [d] }
  | _ => none }
def fnStringPartDecodesEncodedTextRow : OpenClaim := { program := "qxb6601273a", sum := "8045eb033f4d3f94e64a11f08b2fc707b3b21d56a8767c3e4c491eaf54c79658", func := "example.com/package-expression-evaluator/package-expression-evaluator/zzlaws_internal_syntax_b1.FnStringPartDecodesEncodedText", spec := "fnStringPartDecodesEncodedText", apart := false }
def FnStringPartDecodesEncodedTextSaid : Prop := fnStringPartDecodesEncodedTextRow.holds Try.pinned (OpenSpec.ofChange fnStringPartDecodesEncodedTextSpec)

/-- ITS FALSE NEIGHBOUR: 'it returns false'. Refute it at one input. -/
def fnStringPartDecodesEncodedTextWrong : ChangeSpec := { name := "fnStringPartDecodesEncodedText", fn := fun _ => fun
  | [d] => { results := [.lit (.bool false)], args := [d] }
  | _ => none }
def FnStringPartDecodesEncodedTextWrongFalsely : Prop := fnStringPartDecodesEncodedTextRow.holds Try.pinned (OpenSpec.ofChange fnStringPartDecodesEncodedTextWrong)

/-- 'zzlaws_internal_syntax_b1.FnIndStringPartDecodesEncodedText': WHATEVER THE INPUT: true; the input reads as it did. -/
def fnIndStringPartDecodesEncodedTextSpec : ChangeSpec := { name := "fnIndStringPartDecodesEncodedText", fn := fun _ => fun
  | [d] => { results := [.lit (.bool true)], args := [d] }
  | _ => none }
def fnIndStringPartDecodesEncodedTextRow : OpenClaim := { program := "qxb6601273a", sum := "8045eb033f4d3f94e64a11f08b2fc707b3b21d56a8767c3e4c491eaf54c79658", func := "example.com/package-expression-evaluator/package-expression-evaluator/zzlaws_internal_syntax_b1.FnIndStringPartDecodesEncodedText", spec := "fnIndStringPartDecodesEncodedText", unfollowed := true, recurses := true, apart := false }
def FnIndStringPartDecodesEncodedTextSaid : Prop := fnIndStringPartDecodesEncodedTextRow.holds Try.pinned (OpenSpec.ofChange fnIndStringPartDecodesEncodedTextSpec)

/-- ITS FALSE NEIGHBOUR: 'it returns false'. Refute it at one input. -/
def fnIndStringPartDecodesEncodedTextWrong : ChangeSpec := { name := "fnIndStringPartDecodesEncodedText", fn := fun _ => fun
  | [d] => { results := [.lit (.bool false)], args := [d] }
  | _ => none }
def FnIndStringPartDecodesEncodedTextWrongFalsely : Prop := fnIndStringPartDecodesEncodedTextRow.holds Try.pinned (OpenSpec.ofChange fnIndStringPartDecodesEncodedTextWrong)

/-- 'zzlaws_internal_syntax_b1.FnStringPartMatchesStreamingModel': WHATEVER THE INPUT: true; the input reads as it did. -/
def fnStringPartMatchesStreamingModelSpec : ChangeSpec := { name := "fnStringPartMatchesStreamingModel", fn := fun _ => fun
  | [d1, d2, d3, d4, d5] => { results := [.lit (.bool true)], args := [d1, d2, d3, d4, d5] }
  | _ => none }
def fnStringPartMatchesStreamingModelRow : OpenClaim := { program := "qxb6601273a", sum := "8045eb033f4d3f94e64a11f08b2fc707b3b21d56a8767c3e4c491eaf54c79658", func := "example.com/package-expression-evaluator/package-expression-evaluator/zzlaws_internal_syntax_b1.FnStringPartMatchesStreamingModel", spec := "fnStringPartMatchesStreamingModel", apart := false }
def FnStringPartMatchesStreamingModelSaid : Prop := fnStringPartMatchesStreamingModelRow.holds Try.pinned (OpenSpec.ofChange fnStringPartMatchesStreamingModelSpec)

/-- ITS FALSE NEIGHBOUR: 'it returns false'. Refute it at one input. -/
def fnStringPartMatchesStreamingModelWrong : ChangeSpec := { name := "fnStringPartMatchesStreamingModel", fn := fun _ => fun
  | [d1, d2, d3, d4, d5] => { results := [.lit (.bool false)], args := [d1, d2, d3, d4, d5] }
  | _ => none }
def FnStringPartMatchesStreamingModelWrongFalsely : Prop := fnStringPartMatchesStreamingModelRow.holds Try.pinned (OpenSpec.ofChange fnStringPartMatchesStreamingModelWrong)

/-- 'zzlaws_internal_syntax_b1.FnIndStringPartMatchesStreamingModel': WHATEVER THE INPUT: true; the input reads as it did. -/
def fnIndStringPartMatchesStreamingModelSpec : ChangeSpec := { name := "fnIndStringPartMatchesStreamingModel", fn := fun _ => fun
  | [d1, d2, d3, d4, d5] => { results := [.lit (.bool true)], args := [d1, d2, d3, d4, d5] }
  | _ => none }
def fnIndStringPartMatchesStreamingModelRow : OpenClaim := { program := "qxb6601273a", sum := "8045eb033f4d3f94e64a11f08b2fc707b3b21d56a8767c3e4c491eaf54c79658", func := "example.com/package-expression-evaluator/package-expression-evaluator/zzlaws_internal_syntax_b1.FnIndStringPartMatchesStreamingModel", spec := "fnIndStringPartMatchesStreamingModel", unfollowed := true, recurses := true, apart := false }
def FnIndStringPartMatchesStreamingModelSaid : Prop := fnIndStringPartMatchesStreamingModelRow.holds Try.pinned (OpenSpec.ofChange fnIndStringPartMatchesStreamingModelSpec)

/-- ITS FALSE NEIGHBOUR: 'it returns false'. Refute it at one input. -/
def fnIndStringPartMatchesStreamingModelWrong : ChangeSpec := { name := "fnIndStringPartMatchesStreamingModel", fn := fun _ => fun
  | [d1, d2, d3, d4, d5] => { results := [.lit (.bool false)], args := [d1, d2, d3, d4, d5] }
  | _ => none }
def FnIndStringPartMatchesStreamingModelWrongFalsely : Prop := fnIndStringPartMatchesStreamingModelRow.holds Try.pinned (OpenSpec.ofChange fnIndStringPartMatchesStreamingModelWrong)

/-- 'zzlaws_internal_syntax_b1.FnStringPartAgreesWithIndStringPartWithoutQuotes': WHATEVER THE INPUT: true; the input reads as it did. -/
def fnStringPartAgreesWithIndStringPartWithoutQuotesSpec : ChangeSpec := { name := "fnStringPartAgreesWithIndStringPartWithoutQuotes", fn := fun _ => fun
  | [d1, d2, d3, d4, d5] => { results := [.lit (.bool true)], args := [d1, d2, d3, d4, d5] }
  | _ => none }
def fnStringPartAgreesWithIndStringPartWithoutQuotesRow : OpenClaim := { program := "qxb6601273a", sum := "8045eb033f4d3f94e64a11f08b2fc707b3b21d56a8767c3e4c491eaf54c79658", func := "example.com/package-expression-evaluator/package-expression-evaluator/zzlaws_internal_syntax_b1.FnStringPartAgreesWithIndStringPartWithoutQuotes", spec := "fnStringPartAgreesWithIndStringPartWithoutQuotes", unfollowed := true, recurses := true, apart := false }
def FnStringPartAgreesWithIndStringPartWithoutQuotesSaid : Prop := fnStringPartAgreesWithIndStringPartWithoutQuotesRow.holds Try.pinned (OpenSpec.ofChange fnStringPartAgreesWithIndStringPartWithoutQuotesSpec)

/-- ITS FALSE NEIGHBOUR: 'it returns false'. Refute it at one input. -/
def fnStringPartAgreesWithIndStringPartWithoutQuotesWrong : ChangeSpec := { name := "fnStringPartAgreesWithIndStringPartWithoutQuotes", fn := fun _ => fun
  | [d1, d2, d3, d4, d5] => { results := [.lit (.bool false)], args := [d1, d2, d3, d4, d5] }
  | _ => none }
def FnStringPartAgreesWithIndStringPartWithoutQuotesWrongFalsely : Prop := fnStringPartAgreesWithIndStringPartWithoutQuotesRow.holds Try.pinned (OpenSpec.ofChange fnStringPartAgreesWithIndStringPartWithoutQuotesWrong)

end Rows
end Go.Proofs.Qxb6601273a
