/-
  No cell of these rows narrows 'for every input' (looked for: loops, veiled, ifaces, maps, wideKeys, modest, calm, conditions, laid).
  DERIVED. THE GIVEN ROWS OF THIS SEAT. 6 by the template 'for every input the law returns true; each argument reads behind the call as it read before'; 0 by the template 'total and deterministic' (their statements: Qxb6602231aTotals.lean).
  GIVEN WITH THE SEED: the statements are not yours to turn. If you find one false, say at which input.
  Laid BY PROGRAM, IN A SANDBOX (cutbox-rows.mjs): the forced cells as the released guide's own fill.sh prints them over the translation 67011e5a5595a294… (all of the seat's roots in one cut). By AI agents, Wed Nov 11 2026. No macro, syntax, notation, axiom, sorry.
-/
import Derived.Test.Qxb6602231aChecked
import GoSem.Claim
import GoSem.ClaimJoined
import GoSem.ClaimMapViews
import Derived.JoinedTies
import Derived.KernelRfl
namespace Go.Proofs.Qxb6602231a
/- THE CELL 'sum', in the pinned program and in every row, IS THE sha256 OF THE DUMP (.gsa) THAT Qxb6602231aProg.lean LOADS. Nothing in Lean hashes anything: it is a label: what it is worth is what the hold of that sum in a sandbox is worth. -/
noncomputable def Try.pinned : Pinned := { name := "qxb6602231a", sum := "67011e5a5595a2947b875214860e7c5c944d1a5311588ce49f289250f19aefe4", checked := Try.checked }
namespace Rows
def none {H : Type} : Left H := { results := [], args := [] }

/-- 'zzlaws_internal_jsonscan_b1.FnHexValueIsPositionalValue': WHATEVER THE INPUT: true; the input reads as it did. -/
def fnHexValueIsPositionalValueSpec : ChangeSpec := { name := "fnHexValueIsPositionalValue", fn := fun _ => fun
  | [d] => { results := [.lit (.bool true)], args := [d] }
  | _ => none }
def fnHexValueIsPositionalValueRow : OpenClaim := { program := "qxb6602231a", sum := "67011e5a5595a2947b875214860e7c5c944d1a5311588ce49f289250f19aefe4", func := "example.com/hillsboro/hillsboro/zzlaws_internal_jsonscan_b1.FnHexValueIsPositionalValue", spec := "fnHexValueIsPositionalValue", apart := false }
def FnHexValueIsPositionalValueSaid : Prop := fnHexValueIsPositionalValueRow.holds Try.pinned (OpenSpec.ofChange fnHexValueIsPositionalValueSpec)

/-- ITS FALSE NEIGHBOUR: 'it returns false'. Refute it at one input. -/
def fnHexValueIsPositionalValueWrong : ChangeSpec := { name := "fnHexValueIsPositionalValue", fn := fun _ => fun
  | [d] => { results := [.lit (.bool false)], args := [d] }
  | _ => none }
def FnHexValueIsPositionalValueWrongFalsely : Prop := fnHexValueIsPositionalValueRow.holds Try.pinned (OpenSpec.ofChange fnHexValueIsPositionalValueWrong)

/-- 'zzlaws_internal_jsonscan_b1.FnHexValueReadsBackFourDigits': WHATEVER THE INPUT: true; the input reads as it did. -/
def fnHexValueReadsBackFourDigitsSpec : ChangeSpec := { name := "fnHexValueReadsBackFourDigits", fn := fun _ => fun
  | [d1, d2] => { results := [.lit (.bool true)], args := [d1, d2] }
  | _ => none }
def fnHexValueReadsBackFourDigitsRow : OpenClaim := { program := "qxb6602231a", sum := "67011e5a5595a2947b875214860e7c5c944d1a5311588ce49f289250f19aefe4", func := "example.com/hillsboro/hillsboro/zzlaws_internal_jsonscan_b1.FnHexValueReadsBackFourDigits", spec := "fnHexValueReadsBackFourDigits", apart := false }
def FnHexValueReadsBackFourDigitsSaid : Prop := fnHexValueReadsBackFourDigitsRow.holds Try.pinned (OpenSpec.ofChange fnHexValueReadsBackFourDigitsSpec)

/-- ITS FALSE NEIGHBOUR: 'it returns false'. Refute it at one input. -/
def fnHexValueReadsBackFourDigitsWrong : ChangeSpec := { name := "fnHexValueReadsBackFourDigits", fn := fun _ => fun
  | [d1, d2] => { results := [.lit (.bool false)], args := [d1, d2] }
  | _ => none }
def FnHexValueReadsBackFourDigitsWrongFalsely : Prop := fnHexValueReadsBackFourDigitsRow.holds Try.pinned (OpenSpec.ofChange fnHexValueReadsBackFourDigitsWrong)

/-- 'zzlaws_internal_jsonscan_b1.FnScannerBeginExact': WHATEVER THE INPUT: true; the input reads as it did. -/
def fnScannerBeginExactSpec : ChangeSpec := { name := "fnScannerBeginExact", fn := fun _ => fun
  | [d1, d2, d3, d4, d5, d6, d7, d8] => { results := [.lit (.bool true)], args := [d1, d2, d3, d4, d5, d6, d7, d8] }
  | _ => none }
def fnScannerBeginExactRow : OpenClaim := { program := "qxb6602231a", sum := "67011e5a5595a2947b875214860e7c5c944d1a5311588ce49f289250f19aefe4", func := "example.com/hillsboro/hillsboro/zzlaws_internal_jsonscan_b1.FnScannerBeginExact", spec := "fnScannerBeginExact", apart := false }
def FnScannerBeginExactSaid : Prop := fnScannerBeginExactRow.holds Try.pinned (OpenSpec.ofChange fnScannerBeginExactSpec)

/-- ITS FALSE NEIGHBOUR: 'it returns false'. Refute it at one input. -/
def fnScannerBeginExactWrong : ChangeSpec := { name := "fnScannerBeginExact", fn := fun _ => fun
  | [d1, d2, d3, d4, d5, d6, d7, d8] => { results := [.lit (.bool false)], args := [d1, d2, d3, d4, d5, d6, d7, d8] }
  | _ => none }
def FnScannerBeginExactWrongFalsely : Prop := fnScannerBeginExactRow.holds Try.pinned (OpenSpec.ofChange fnScannerBeginExactWrong)

/-- 'zzlaws_internal_jsonscan_b1.FnScannerEndExact': WHATEVER THE INPUT: true; the input reads as it did. -/
def fnScannerEndExactSpec : ChangeSpec := { name := "fnScannerEndExact", fn := fun _ => fun
  | [d1, d2, d3, d4, d5, d6] => { results := [.lit (.bool true)], args := [d1, d2, d3, d4, d5, d6] }
  | _ => none }
def fnScannerEndExactRow : OpenClaim := { program := "qxb6602231a", sum := "67011e5a5595a2947b875214860e7c5c944d1a5311588ce49f289250f19aefe4", func := "example.com/hillsboro/hillsboro/zzlaws_internal_jsonscan_b1.FnScannerEndExact", spec := "fnScannerEndExact", apart := false }
def FnScannerEndExactSaid : Prop := fnScannerEndExactRow.holds Try.pinned (OpenSpec.ofChange fnScannerEndExactSpec)

/-- ITS FALSE NEIGHBOUR: 'it returns false'. Refute it at one input. -/
def fnScannerEndExactWrong : ChangeSpec := { name := "fnScannerEndExact", fn := fun _ => fun
  | [d1, d2, d3, d4, d5, d6] => { results := [.lit (.bool false)], args := [d1, d2, d3, d4, d5, d6] }
  | _ => none }
def FnScannerEndExactWrongFalsely : Prop := fnScannerEndExactRow.holds Try.pinned (OpenSpec.ofChange fnScannerEndExactWrong)

/-- 'zzlaws_internal_jsonscan_b1.FnScannerBeginThenEndRestores': WHATEVER THE INPUT: true; the input reads as it did. -/
def fnScannerBeginThenEndRestoresSpec : ChangeSpec := { name := "fnScannerBeginThenEndRestores", fn := fun _ => fun
  | [d1, d2, d3, d4, d5, d6, d7, d8, d9] => { results := [.lit (.bool true)], args := [d1, d2, d3, d4, d5, d6, d7, d8, d9] }
  | _ => none }
def fnScannerBeginThenEndRestoresRow : OpenClaim := { program := "qxb6602231a", sum := "67011e5a5595a2947b875214860e7c5c944d1a5311588ce49f289250f19aefe4", func := "example.com/hillsboro/hillsboro/zzlaws_internal_jsonscan_b1.FnScannerBeginThenEndRestores", spec := "fnScannerBeginThenEndRestores", apart := false }
def FnScannerBeginThenEndRestoresSaid : Prop := fnScannerBeginThenEndRestoresRow.holds Try.pinned (OpenSpec.ofChange fnScannerBeginThenEndRestoresSpec)

/-- ITS FALSE NEIGHBOUR: 'it returns false'. Refute it at one input. -/
def fnScannerBeginThenEndRestoresWrong : ChangeSpec := { name := "fnScannerBeginThenEndRestores", fn := fun _ => fun
  | [d1, d2, d3, d4, d5, d6, d7, d8, d9] => { results := [.lit (.bool false)], args := [d1, d2, d3, d4, d5, d6, d7, d8, d9] }
  | _ => none }
def FnScannerBeginThenEndRestoresWrongFalsely : Prop := fnScannerBeginThenEndRestoresRow.holds Try.pinned (OpenSpec.ofChange fnScannerBeginThenEndRestoresWrong)

/-- 'zzlaws_internal_jsonscan_b1.FnScannerScriptKeepsAfterValueWithInnermost': WHATEVER THE INPUT: true; the input reads as it did. -/
def fnScannerScriptKeepsAfterValueWithInnermostSpec : ChangeSpec := { name := "fnScannerScriptKeepsAfterValueWithInnermost", fn := fun _ => fun
  | [d1, d2] => { results := [.lit (.bool true)], args := [d1, d2] }
  | _ => none }
def fnScannerScriptKeepsAfterValueWithInnermostRow : OpenClaim := { program := "qxb6602231a", sum := "67011e5a5595a2947b875214860e7c5c944d1a5311588ce49f289250f19aefe4", func := "example.com/hillsboro/hillsboro/zzlaws_internal_jsonscan_b1.FnScannerScriptKeepsAfterValueWithInnermost", spec := "fnScannerScriptKeepsAfterValueWithInnermost", apart := false }
def FnScannerScriptKeepsAfterValueWithInnermostSaid : Prop := fnScannerScriptKeepsAfterValueWithInnermostRow.holds Try.pinned (OpenSpec.ofChange fnScannerScriptKeepsAfterValueWithInnermostSpec)

/-- ITS FALSE NEIGHBOUR: 'it returns false'. Refute it at one input. -/
def fnScannerScriptKeepsAfterValueWithInnermostWrong : ChangeSpec := { name := "fnScannerScriptKeepsAfterValueWithInnermost", fn := fun _ => fun
  | [d1, d2] => { results := [.lit (.bool false)], args := [d1, d2] }
  | _ => none }
def FnScannerScriptKeepsAfterValueWithInnermostWrongFalsely : Prop := fnScannerScriptKeepsAfterValueWithInnermostRow.holds Try.pinned (OpenSpec.ofChange fnScannerScriptKeepsAfterValueWithInnermostWrong)

end Rows
end Go.Proofs.Qxb6602231a
