/-
  No cell of these rows narrows 'for every input' (looked for: loops, veiled, ifaces, maps, wideKeys, modest, calm, conditions, laid).
  DERIVED. THE GIVEN ROWS OF THIS SEAT. 6 by the template 'for every input the law returns true; each argument reads behind the call as it read before'; 0 by the template 'total and deterministic' (their statements: Qxb6601515aTotals.lean).
  GIVEN WITH THE SEED: the statements are not yours to turn. If you find one false, say at which input.
  Laid BY PROGRAM, IN A SANDBOX (cutbox-rows.mjs): the forced cells as the released guide's own fill.sh prints them over the translation d6fa8d34b056e7fc… (all of the seat's roots in one cut). By AI agents, Wed Nov 11 2026. No macro, syntax, notation, axiom, sorry.
-/
import Derived.Test.Qxb6601515aChecked
import GoSem.Claim
import GoSem.ClaimJoined
import GoSem.ClaimMapViews
import Derived.JoinedTies
import Derived.KernelRfl
namespace Go.Proofs.Qxb6601515a
/- THE CELL 'sum', in the pinned program and in every row, IS THE sha256 OF THE DUMP (.gsa) THAT Qxb6601515aProg.lean LOADS. Nothing in Lean hashes anything: it is a label: what it is worth is what the hold of that sum in a sandbox is worth. -/
noncomputable def Try.pinned : Pinned := { name := "qxb6601515a", sum := "d6fa8d34b056e7fcedb6177b9d8bf79840f8637f0a13b853d30dc9c9d72f1ecd", checked := Try.checked }
namespace Rows
def none {H : Type} : Left H := { results := [], args := [] }

/-- 'zzlaws_internal_jsontext_b1.FnHex4MatchesPlaceValueModel': WHATEVER THE INPUT: true; the input reads as it did. -/
def fnHex4MatchesPlaceValueModelSpec : ChangeSpec := { name := "fnHex4MatchesPlaceValueModel", fn := fun _ => fun
  | [d] => { results := [.lit (.bool true)], args := [d] }
  | _ => none }
def fnHex4MatchesPlaceValueModelRow : OpenClaim := { program := "qxb6601515a", sum := "d6fa8d34b056e7fcedb6177b9d8bf79840f8637f0a13b853d30dc9c9d72f1ecd", func := "example.com/boveda/boveda/zzlaws_internal_jsontext_b1.FnHex4MatchesPlaceValueModel", spec := "fnHex4MatchesPlaceValueModel", apart := false }
def FnHex4MatchesPlaceValueModelSaid : Prop := fnHex4MatchesPlaceValueModelRow.holds Try.pinned (OpenSpec.ofChange fnHex4MatchesPlaceValueModelSpec)

/-- ITS FALSE NEIGHBOUR: 'it returns false'. Refute it at one input. -/
def fnHex4MatchesPlaceValueModelWrong : ChangeSpec := { name := "fnHex4MatchesPlaceValueModel", fn := fun _ => fun
  | [d] => { results := [.lit (.bool false)], args := [d] }
  | _ => none }
def FnHex4MatchesPlaceValueModelWrongFalsely : Prop := fnHex4MatchesPlaceValueModelRow.holds Try.pinned (OpenSpec.ofChange fnHex4MatchesPlaceValueModelWrong)

/-- 'zzlaws_internal_jsontext_b1.FnHex4ReadsBackFourDigits': WHATEVER THE INPUT: true; the input reads as it did. -/
def fnHex4ReadsBackFourDigitsSpec : ChangeSpec := { name := "fnHex4ReadsBackFourDigits", fn := fun _ => fun
  | [d1, d2, d3] => { results := [.lit (.bool true)], args := [d1, d2, d3] }
  | _ => none }
def fnHex4ReadsBackFourDigitsRow : OpenClaim := { program := "qxb6601515a", sum := "d6fa8d34b056e7fcedb6177b9d8bf79840f8637f0a13b853d30dc9c9d72f1ecd", func := "example.com/boveda/boveda/zzlaws_internal_jsontext_b1.FnHex4ReadsBackFourDigits", spec := "fnHex4ReadsBackFourDigits", apart := false }
def FnHex4ReadsBackFourDigitsSaid : Prop := fnHex4ReadsBackFourDigitsRow.holds Try.pinned (OpenSpec.ofChange fnHex4ReadsBackFourDigitsSpec)

/-- ITS FALSE NEIGHBOUR: 'it returns false'. Refute it at one input. -/
def fnHex4ReadsBackFourDigitsWrong : ChangeSpec := { name := "fnHex4ReadsBackFourDigits", fn := fun _ => fun
  | [d1, d2, d3] => { results := [.lit (.bool false)], args := [d1, d2, d3] }
  | _ => none }
def FnHex4ReadsBackFourDigitsWrongFalsely : Prop := fnHex4ReadsBackFourDigitsRow.holds Try.pinned (OpenSpec.ofChange fnHex4ReadsBackFourDigitsWrong)

/-- 'zzlaws_internal_jsontext_b1.FnStringEndMatchesEscapeAutomaton': WHATEVER THE INPUT: true; the input reads as it did. -/
def fnStringEndMatchesEscapeAutomatonSpec : ChangeSpec := { name := "fnStringEndMatchesEscapeAutomaton", fn := fun _ => fun
  | [d1, d2] => { results := [.lit (.bool true)], args := [d1, d2] }
  | _ => none }
def fnStringEndMatchesEscapeAutomatonRow : OpenClaim := { program := "qxb6601515a", sum := "d6fa8d34b056e7fcedb6177b9d8bf79840f8637f0a13b853d30dc9c9d72f1ecd", func := "example.com/boveda/boveda/zzlaws_internal_jsontext_b1.FnStringEndMatchesEscapeAutomaton", spec := "fnStringEndMatchesEscapeAutomaton", inPlace := ["internal/bytealg.IndexByte"], apart := false }
def FnStringEndMatchesEscapeAutomatonSaid : Prop := fnStringEndMatchesEscapeAutomatonRow.holds Try.pinned (OpenSpec.ofChange fnStringEndMatchesEscapeAutomatonSpec)

/-- ITS FALSE NEIGHBOUR: 'it returns false'. Refute it at one input. -/
def fnStringEndMatchesEscapeAutomatonWrong : ChangeSpec := { name := "fnStringEndMatchesEscapeAutomaton", fn := fun _ => fun
  | [d1, d2] => { results := [.lit (.bool false)], args := [d1, d2] }
  | _ => none }
def FnStringEndMatchesEscapeAutomatonWrongFalsely : Prop := fnStringEndMatchesEscapeAutomatonRow.holds Try.pinned (OpenSpec.ofChange fnStringEndMatchesEscapeAutomatonWrong)

/-- 'zzlaws_internal_jsontext_b1.FnStringEndFindsEncodedStringsEnd': WHATEVER THE INPUT: true; the input reads as it did. -/
def fnStringEndFindsEncodedStringsEndSpec : ChangeSpec := { name := "fnStringEndFindsEncodedStringsEnd", fn := fun _ => fun
  | [d1, d2, d3] => { results := [.lit (.bool true)], args := [d1, d2, d3] }
  | _ => none }
def fnStringEndFindsEncodedStringsEndRow : OpenClaim := { program := "qxb6601515a", sum := "d6fa8d34b056e7fcedb6177b9d8bf79840f8637f0a13b853d30dc9c9d72f1ecd", func := "example.com/boveda/boveda/zzlaws_internal_jsontext_b1.FnStringEndFindsEncodedStringsEnd", spec := "fnStringEndFindsEncodedStringsEnd", inPlace := ["internal/bytealg.IndexByte", "internal/bytealg.IndexByteString"], apart := false }
def FnStringEndFindsEncodedStringsEndSaid : Prop := fnStringEndFindsEncodedStringsEndRow.holds Try.pinned (OpenSpec.ofChange fnStringEndFindsEncodedStringsEndSpec)

/-- ITS FALSE NEIGHBOUR: 'it returns false'. Refute it at one input. -/
def fnStringEndFindsEncodedStringsEndWrong : ChangeSpec := { name := "fnStringEndFindsEncodedStringsEnd", fn := fun _ => fun
  | [d1, d2, d3] => { results := [.lit (.bool false)], args := [d1, d2, d3] }
  | _ => none }
def FnStringEndFindsEncodedStringsEndWrongFalsely : Prop := fnStringEndFindsEncodedStringsEndRow.holds Try.pinned (OpenSpec.ofChange fnStringEndFindsEncodedStringsEndWrong)

/-- 'zzlaws_internal_jsontext_b1.FnValueEndMatchesScannerModel': WHATEVER THE INPUT: true; the input reads as it did. -/
def fnValueEndMatchesScannerModelSpec : ChangeSpec := { name := "fnValueEndMatchesScannerModel", fn := fun _ => fun
  | [d1, d2] => { results := [.lit (.bool true)], args := [d1, d2] }
  | _ => none }
def fnValueEndMatchesScannerModelRow : OpenClaim := { program := "qxb6601515a", sum := "d6fa8d34b056e7fcedb6177b9d8bf79840f8637f0a13b853d30dc9c9d72f1ecd", func := "example.com/boveda/boveda/zzlaws_internal_jsontext_b1.FnValueEndMatchesScannerModel", spec := "fnValueEndMatchesScannerModel", inPlace := ["internal/bytealg.IndexByte", "internal/bytealg.IndexByteString"], apart := false }
def FnValueEndMatchesScannerModelSaid : Prop := fnValueEndMatchesScannerModelRow.holds Try.pinned (OpenSpec.ofChange fnValueEndMatchesScannerModelSpec)

/-- ITS FALSE NEIGHBOUR: 'it returns false'. Refute it at one input. -/
def fnValueEndMatchesScannerModelWrong : ChangeSpec := { name := "fnValueEndMatchesScannerModel", fn := fun _ => fun
  | [d1, d2] => { results := [.lit (.bool false)], args := [d1, d2] }
  | _ => none }
def FnValueEndMatchesScannerModelWrongFalsely : Prop := fnValueEndMatchesScannerModelRow.holds Try.pinned (OpenSpec.ofChange fnValueEndMatchesScannerModelWrong)

/-- 'zzlaws_internal_jsontext_b1.FnValueEndDependsOnlyOnTheValue': WHATEVER THE INPUT: true; the input reads as it did. -/
def fnValueEndDependsOnlyOnTheValueSpec : ChangeSpec := { name := "fnValueEndDependsOnlyOnTheValue", fn := fun _ => fun
  | [d1, d2, d3] => { results := [.lit (.bool true)], args := [d1, d2, d3] }
  | _ => none }
def fnValueEndDependsOnlyOnTheValueRow : OpenClaim := { program := "qxb6601515a", sum := "d6fa8d34b056e7fcedb6177b9d8bf79840f8637f0a13b853d30dc9c9d72f1ecd", func := "example.com/boveda/boveda/zzlaws_internal_jsontext_b1.FnValueEndDependsOnlyOnTheValue", spec := "fnValueEndDependsOnlyOnTheValue", inPlace := ["internal/bytealg.IndexByte", "internal/bytealg.IndexByteString"], apart := false }
def FnValueEndDependsOnlyOnTheValueSaid : Prop := fnValueEndDependsOnlyOnTheValueRow.holds Try.pinned (OpenSpec.ofChange fnValueEndDependsOnlyOnTheValueSpec)

/-- ITS FALSE NEIGHBOUR: 'it returns false'. Refute it at one input. -/
def fnValueEndDependsOnlyOnTheValueWrong : ChangeSpec := { name := "fnValueEndDependsOnlyOnTheValue", fn := fun _ => fun
  | [d1, d2, d3] => { results := [.lit (.bool false)], args := [d1, d2, d3] }
  | _ => none }
def FnValueEndDependsOnlyOnTheValueWrongFalsely : Prop := fnValueEndDependsOnlyOnTheValueRow.holds Try.pinned (OpenSpec.ofChange fnValueEndDependsOnlyOnTheValueWrong)

end Rows
end Go.Proofs.Qxb6601515a
