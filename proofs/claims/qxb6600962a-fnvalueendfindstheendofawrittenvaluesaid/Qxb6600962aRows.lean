/-
  No cell of these rows narrows 'for every input' (looked for: loops, veiled, ifaces, maps, wideKeys, modest, calm, conditions, laid).
  DERIVED. THE GIVEN ROWS OF THIS SEAT. 5 by the template 'for every input the law returns true; each argument reads behind the call as it read before'; 0 by the template 'total and deterministic' (their statements: Qxb6600962aTotals.lean).
  GIVEN WITH THE SEED: the statements are not yours to turn. If you find one false, say at which input.
  Laid BY PROGRAM, IN A SANDBOX (cutbox-rows.mjs): the forced cells as the released guide's own fill.sh prints them over the translation 693ccf26a6d0c8d1… (all of the seat's roots in one cut). By AI agents, Wed Nov 11 2026. No macro, syntax, notation, axiom, sorry.
-/
import Derived.Test.Qxb6600962aChecked
import GoSem.Claim
import GoSem.ClaimJoined
import GoSem.ClaimMapViews
import Derived.JoinedTies
import Derived.KernelRfl
namespace Go.Proofs.Qxb6600962a
/- THE CELL 'sum', in the pinned program and in every row, IS THE sha256 OF THE DUMP (.gsa) THAT Qxb6600962aProg.lean LOADS. Nothing in Lean hashes anything: it is a label: what it is worth is what the hold of that sum in a sandbox is worth. -/
noncomputable def Try.pinned : Pinned := { name := "qxb6600962a", sum := "693ccf26a6d0c8d191d3a873df5a33938993745356fb93a988cf7cc5a7c52146", checked := Try.checked }
namespace Rows
def none {H : Type} : Left H := { results := [], args := [] }

/-- 'zzlaws_internal_jsonobject_b1.FnStringEndFindsFirstUnescapedQuote': WHATEVER THE INPUT: true; the input reads as it did. -/
def fnStringEndFindsFirstUnescapedQuoteSpec : ChangeSpec := { name := "fnStringEndFindsFirstUnescapedQuote", fn := fun _ => fun
  | [d1, d2] => { results := [.lit (.bool true)], args := [d1, d2] }
  | _ => none }
def fnStringEndFindsFirstUnescapedQuoteRow : OpenClaim := { program := "qxb6600962a", sum := "693ccf26a6d0c8d191d3a873df5a33938993745356fb93a988cf7cc5a7c52146", func := "example.com/tollgate/tollgate/zzlaws_internal_jsonobject_b1.FnStringEndFindsFirstUnescapedQuote", spec := "fnStringEndFindsFirstUnescapedQuote", apart := false }
def FnStringEndFindsFirstUnescapedQuoteSaid : Prop := fnStringEndFindsFirstUnescapedQuoteRow.holds Try.pinned (OpenSpec.ofChange fnStringEndFindsFirstUnescapedQuoteSpec)

/-- ITS FALSE NEIGHBOUR: 'it returns false'. Refute it at one input. -/
def fnStringEndFindsFirstUnescapedQuoteWrong : ChangeSpec := { name := "fnStringEndFindsFirstUnescapedQuote", fn := fun _ => fun
  | [d1, d2] => { results := [.lit (.bool false)], args := [d1, d2] }
  | _ => none }
def FnStringEndFindsFirstUnescapedQuoteWrongFalsely : Prop := fnStringEndFindsFirstUnescapedQuoteRow.holds Try.pinned (OpenSpec.ofChange fnStringEndFindsFirstUnescapedQuoteWrong)

/-- 'zzlaws_internal_jsonobject_b1.FnStringEndFindsTheEndOfAWrittenString': WHATEVER THE INPUT: true; the input reads as it did. -/
def fnStringEndFindsTheEndOfAWrittenStringSpec : ChangeSpec := { name := "fnStringEndFindsTheEndOfAWrittenString", fn := fun _ => fun
  | [d1, d2, d3] => { results := [.lit (.bool true)], args := [d1, d2, d3] }
  | _ => none }
def fnStringEndFindsTheEndOfAWrittenStringRow : OpenClaim := { program := "qxb6600962a", sum := "693ccf26a6d0c8d191d3a873df5a33938993745356fb93a988cf7cc5a7c52146", func := "example.com/tollgate/tollgate/zzlaws_internal_jsonobject_b1.FnStringEndFindsTheEndOfAWrittenString", spec := "fnStringEndFindsTheEndOfAWrittenString", apart := false }
def FnStringEndFindsTheEndOfAWrittenStringSaid : Prop := fnStringEndFindsTheEndOfAWrittenStringRow.holds Try.pinned (OpenSpec.ofChange fnStringEndFindsTheEndOfAWrittenStringSpec)

/-- ITS FALSE NEIGHBOUR: 'it returns false'. Refute it at one input. -/
def fnStringEndFindsTheEndOfAWrittenStringWrong : ChangeSpec := { name := "fnStringEndFindsTheEndOfAWrittenString", fn := fun _ => fun
  | [d1, d2, d3] => { results := [.lit (.bool false)], args := [d1, d2, d3] }
  | _ => none }
def FnStringEndFindsTheEndOfAWrittenStringWrongFalsely : Prop := fnStringEndFindsTheEndOfAWrittenStringRow.holds Try.pinned (OpenSpec.ofChange fnStringEndFindsTheEndOfAWrittenStringWrong)

/-- 'zzlaws_internal_jsonobject_b1.FnValueEndAgreesWithAScanner': WHATEVER THE INPUT: true; the input reads as it did. -/
def fnValueEndAgreesWithAScannerSpec : ChangeSpec := { name := "fnValueEndAgreesWithAScanner", fn := fun _ => fun
  | [d1, d2] => { results := [.lit (.bool true)], args := [d1, d2] }
  | _ => none }
def fnValueEndAgreesWithAScannerRow : OpenClaim := { program := "qxb6600962a", sum := "693ccf26a6d0c8d191d3a873df5a33938993745356fb93a988cf7cc5a7c52146", func := "example.com/tollgate/tollgate/zzlaws_internal_jsonobject_b1.FnValueEndAgreesWithAScanner", spec := "fnValueEndAgreesWithAScanner", inPlace := ["internal/bytealg.IndexByteString", "internal/bytealg.IndexString"], named := ["internal/bytealg.MaxLen"], apart := false }
def FnValueEndAgreesWithAScannerSaid : Prop := fnValueEndAgreesWithAScannerRow.holds Try.pinned (OpenSpec.ofChange fnValueEndAgreesWithAScannerSpec)

/-- ITS FALSE NEIGHBOUR: 'it returns false'. Refute it at one input. -/
def fnValueEndAgreesWithAScannerWrong : ChangeSpec := { name := "fnValueEndAgreesWithAScanner", fn := fun _ => fun
  | [d1, d2] => { results := [.lit (.bool false)], args := [d1, d2] }
  | _ => none }
def FnValueEndAgreesWithAScannerWrongFalsely : Prop := fnValueEndAgreesWithAScannerRow.holds Try.pinned (OpenSpec.ofChange fnValueEndAgreesWithAScannerWrong)

/-- 'zzlaws_internal_jsonobject_b1.FnValueEndFindsTheEndOfAWrittenValue': WHATEVER THE INPUT: true; the input reads as it did. -/
def fnValueEndFindsTheEndOfAWrittenValueSpec : ChangeSpec := { name := "fnValueEndFindsTheEndOfAWrittenValue", fn := fun _ => fun
  | [d1, d2, d3, d4] => { results := [.lit (.bool true)], args := [d1, d2, d3, d4] }
  | _ => none }
def fnValueEndFindsTheEndOfAWrittenValueRow : OpenClaim := { program := "qxb6600962a", sum := "693ccf26a6d0c8d191d3a873df5a33938993745356fb93a988cf7cc5a7c52146", func := "example.com/tollgate/tollgate/zzlaws_internal_jsonobject_b1.FnValueEndFindsTheEndOfAWrittenValue", spec := "fnValueEndFindsTheEndOfAWrittenValue", inPlace := ["internal/bytealg.IndexByteString", "internal/bytealg.IndexString"], named := ["internal/bytealg.MaxLen"], apart := false }
def FnValueEndFindsTheEndOfAWrittenValueSaid : Prop := fnValueEndFindsTheEndOfAWrittenValueRow.holds Try.pinned (OpenSpec.ofChange fnValueEndFindsTheEndOfAWrittenValueSpec)

/-- ITS FALSE NEIGHBOUR: 'it returns false'. Refute it at one input. -/
def fnValueEndFindsTheEndOfAWrittenValueWrong : ChangeSpec := { name := "fnValueEndFindsTheEndOfAWrittenValue", fn := fun _ => fun
  | [d1, d2, d3, d4] => { results := [.lit (.bool false)], args := [d1, d2, d3, d4] }
  | _ => none }
def FnValueEndFindsTheEndOfAWrittenValueWrongFalsely : Prop := fnValueEndFindsTheEndOfAWrittenValueRow.holds Try.pinned (OpenSpec.ofChange fnValueEndFindsTheEndOfAWrittenValueWrong)

/-- 'zzlaws_internal_jsonobject_b1.FnPlainTextIsOneWholeJSONString': WHATEVER THE INPUT: true; the input reads as it did. -/
def fnPlainTextIsOneWholeJSONStringSpec : ChangeSpec := { name := "fnPlainTextIsOneWholeJSONString", fn := fun _ => fun
  | [d] => { results := [.lit (.bool true)], args := [d] }
  | _ => none }
def fnPlainTextIsOneWholeJSONStringRow : OpenClaim := { program := "qxb6600962a", sum := "693ccf26a6d0c8d191d3a873df5a33938993745356fb93a988cf7cc5a7c52146", func := "example.com/tollgate/tollgate/zzlaws_internal_jsonobject_b1.FnPlainTextIsOneWholeJSONString", spec := "fnPlainTextIsOneWholeJSONString", inPlace := ["internal/bytealg.IndexByteString", "internal/bytealg.IndexString"], named := ["internal/bytealg.MaxLen"], apart := false }
def FnPlainTextIsOneWholeJSONStringSaid : Prop := fnPlainTextIsOneWholeJSONStringRow.holds Try.pinned (OpenSpec.ofChange fnPlainTextIsOneWholeJSONStringSpec)

/-- ITS FALSE NEIGHBOUR: 'it returns false'. Refute it at one input. -/
def fnPlainTextIsOneWholeJSONStringWrong : ChangeSpec := { name := "fnPlainTextIsOneWholeJSONString", fn := fun _ => fun
  | [d] => { results := [.lit (.bool false)], args := [d] }
  | _ => none }
def FnPlainTextIsOneWholeJSONStringWrongFalsely : Prop := fnPlainTextIsOneWholeJSONStringRow.holds Try.pinned (OpenSpec.ofChange fnPlainTextIsOneWholeJSONStringWrong)

end Rows
end Go.Proofs.Qxb6600962a
