/-
  No cell of these rows narrows 'for every input' (looked for: loops, veiled, ifaces, maps, wideKeys, modest, calm, conditions, laid).
  DERIVED. THE GIVEN ROWS OF THIS SEAT. 6 by the template 'for every input the law returns true; each argument reads behind the call as it read before'; 0 by the template 'total and deterministic' (their statements: Qxb6601329aTotals.lean).
  GIVEN WITH THE SEED: the statements are not yours to turn. If you find one false, say at which input.
  Laid BY PROGRAM, IN A SANDBOX (cutbox-rows.mjs): the forced cells as the released guide's own fill.sh prints them over the translation 8802b2322dec9d49… (all of the seat's roots in one cut). By AI agents, Wed Nov 11 2026. No macro, syntax, notation, axiom, sorry.
-/
import Derived.Test.Qxb6601329aChecked
import GoSem.Claim
import GoSem.ClaimJoined
import GoSem.ClaimMapViews
import Derived.JoinedTies
import Derived.KernelRfl
namespace Go.Proofs.Qxb6601329a
/- THE CELL 'sum', in the pinned program and in every row, IS THE sha256 OF THE DUMP (.gsa) THAT Qxb6601329aProg.lean LOADS. Nothing in Lean hashes anything: it is a label: what it is worth is what the hold of that sum in a sandbox is worth. -/
noncomputable def Try.pinned : Pinned := { name := "qxb6601329a", sum := "8802b2322dec9d490a63b9bd69e051f2fccffae8fc820d9bd105d29754e4ba07", checked := Try.checked }
namespace Rows
def none {H : Type} : Left H := { results := [], args := [] }

/-- 'zzlaws_protocol_b1.FnEscapedRuneMatchesHexModel': WHATEVER THE INPUT: true; the input reads as it did. -/
def fnEscapedRuneMatchesHexModelSpec : ChangeSpec := { name := "fnEscapedRuneMatchesHexModel", fn := fun _ => fun
  | [d] => { results := [.lit (.bool true)], args := [d] }
  | _ => none }
def fnEscapedRuneMatchesHexModelRow : OpenClaim := { program := "qxb6601329a", sum := "8802b2322dec9d490a63b9bd69e051f2fccffae8fc820d9bd105d29754e4ba07", func := "example.com/intentd/intentd/zzlaws_protocol_b1.FnEscapedRuneMatchesHexModel", spec := "fnEscapedRuneMatchesHexModel", apart := false }
def FnEscapedRuneMatchesHexModelSaid : Prop := fnEscapedRuneMatchesHexModelRow.holds Try.pinned (OpenSpec.ofChange fnEscapedRuneMatchesHexModelSpec)

/-- ITS FALSE NEIGHBOUR: 'it returns false'. Refute it at one input. -/
def fnEscapedRuneMatchesHexModelWrong : ChangeSpec := { name := "fnEscapedRuneMatchesHexModel", fn := fun _ => fun
  | [d] => { results := [.lit (.bool false)], args := [d] }
  | _ => none }
def FnEscapedRuneMatchesHexModelWrongFalsely : Prop := fnEscapedRuneMatchesHexModelRow.holds Try.pinned (OpenSpec.ofChange fnEscapedRuneMatchesHexModelWrong)

/-- 'zzlaws_protocol_b1.FnEscapedRuneInvertsEscape': WHATEVER THE INPUT: true; the input reads as it did. -/
def fnEscapedRuneInvertsEscapeSpec : ChangeSpec := { name := "fnEscapedRuneInvertsEscape", fn := fun _ => fun
  | [d1, d2, d3] => { results := [.lit (.bool true)], args := [d1, d2, d3] }
  | _ => none }
def fnEscapedRuneInvertsEscapeRow : OpenClaim := { program := "qxb6601329a", sum := "8802b2322dec9d490a63b9bd69e051f2fccffae8fc820d9bd105d29754e4ba07", func := "example.com/intentd/intentd/zzlaws_protocol_b1.FnEscapedRuneInvertsEscape", spec := "fnEscapedRuneInvertsEscape", apart := false }
def FnEscapedRuneInvertsEscapeSaid : Prop := fnEscapedRuneInvertsEscapeRow.holds Try.pinned (OpenSpec.ofChange fnEscapedRuneInvertsEscapeSpec)

/-- ITS FALSE NEIGHBOUR: 'it returns false'. Refute it at one input. -/
def fnEscapedRuneInvertsEscapeWrong : ChangeSpec := { name := "fnEscapedRuneInvertsEscape", fn := fun _ => fun
  | [d1, d2, d3] => { results := [.lit (.bool false)], args := [d1, d2, d3] }
  | _ => none }
def FnEscapedRuneInvertsEscapeWrongFalsely : Prop := fnEscapedRuneInvertsEscapeRow.holds Try.pinned (OpenSpec.ofChange fnEscapedRuneInvertsEscapeWrong)

/-- 'zzlaws_protocol_b1.FnSecondFractionMatchesPositionalModel': WHATEVER THE INPUT: true; the input reads as it did. -/
def fnSecondFractionMatchesPositionalModelSpec : ChangeSpec := { name := "fnSecondFractionMatchesPositionalModel", fn := fun _ => fun
  | [d] => { results := [.lit (.bool true)], args := [d] }
  | _ => none }
def fnSecondFractionMatchesPositionalModelRow : OpenClaim := { program := "qxb6601329a", sum := "8802b2322dec9d490a63b9bd69e051f2fccffae8fc820d9bd105d29754e4ba07", func := "example.com/intentd/intentd/zzlaws_protocol_b1.FnSecondFractionMatchesPositionalModel", spec := "fnSecondFractionMatchesPositionalModel", apart := false }
def FnSecondFractionMatchesPositionalModelSaid : Prop := fnSecondFractionMatchesPositionalModelRow.holds Try.pinned (OpenSpec.ofChange fnSecondFractionMatchesPositionalModelSpec)

/-- ITS FALSE NEIGHBOUR: 'it returns false'. Refute it at one input. -/
def fnSecondFractionMatchesPositionalModelWrong : ChangeSpec := { name := "fnSecondFractionMatchesPositionalModel", fn := fun _ => fun
  | [d] => { results := [.lit (.bool false)], args := [d] }
  | _ => none }
def FnSecondFractionMatchesPositionalModelWrongFalsely : Prop := fnSecondFractionMatchesPositionalModelRow.holds Try.pinned (OpenSpec.ofChange fnSecondFractionMatchesPositionalModelWrong)

/-- 'zzlaws_protocol_b1.FnSecondFractionInvertsNineDigits': WHATEVER THE INPUT: true; the input reads as it did. -/
def fnSecondFractionInvertsNineDigitsSpec : ChangeSpec := { name := "fnSecondFractionInvertsNineDigits", fn := fun _ => fun
  | [d1, d2, d3] => { results := [.lit (.bool true)], args := [d1, d2, d3] }
  | _ => none }
def fnSecondFractionInvertsNineDigitsRow : OpenClaim := { program := "qxb6601329a", sum := "8802b2322dec9d490a63b9bd69e051f2fccffae8fc820d9bd105d29754e4ba07", func := "example.com/intentd/intentd/zzlaws_protocol_b1.FnSecondFractionInvertsNineDigits", spec := "fnSecondFractionInvertsNineDigits", apart := false }
def FnSecondFractionInvertsNineDigitsSaid : Prop := fnSecondFractionInvertsNineDigitsRow.holds Try.pinned (OpenSpec.ofChange fnSecondFractionInvertsNineDigitsSpec)

/-- ITS FALSE NEIGHBOUR: 'it returns false'. Refute it at one input. -/
def fnSecondFractionInvertsNineDigitsWrong : ChangeSpec := { name := "fnSecondFractionInvertsNineDigits", fn := fun _ => fun
  | [d1, d2, d3] => { results := [.lit (.bool false)], args := [d1, d2, d3] }
  | _ => none }
def FnSecondFractionInvertsNineDigitsWrongFalsely : Prop := fnSecondFractionInvertsNineDigitsRow.holds Try.pinned (OpenSpec.ofChange fnSecondFractionInvertsNineDigitsWrong)

/-- 'zzlaws_protocol_b1.FnDecimalMatchesPositionalModel': WHATEVER THE INPUT: true; the input reads as it did. -/
def fnDecimalMatchesPositionalModelSpec : ChangeSpec := { name := "fnDecimalMatchesPositionalModel", fn := fun _ => fun
  | [d1, d2, d3] => { results := [.lit (.bool true)], args := [d1, d2, d3] }
  | _ => none }
def fnDecimalMatchesPositionalModelRow : OpenClaim := { program := "qxb6601329a", sum := "8802b2322dec9d490a63b9bd69e051f2fccffae8fc820d9bd105d29754e4ba07", func := "example.com/intentd/intentd/zzlaws_protocol_b1.FnDecimalMatchesPositionalModel", spec := "fnDecimalMatchesPositionalModel", apart := false }
def FnDecimalMatchesPositionalModelSaid : Prop := fnDecimalMatchesPositionalModelRow.holds Try.pinned (OpenSpec.ofChange fnDecimalMatchesPositionalModelSpec)

/-- ITS FALSE NEIGHBOUR: 'it returns false'. Refute it at one input. -/
def fnDecimalMatchesPositionalModelWrong : ChangeSpec := { name := "fnDecimalMatchesPositionalModel", fn := fun _ => fun
  | [d1, d2, d3] => { results := [.lit (.bool false)], args := [d1, d2, d3] }
  | _ => none }
def FnDecimalMatchesPositionalModelWrongFalsely : Prop := fnDecimalMatchesPositionalModelRow.holds Try.pinned (OpenSpec.ofChange fnDecimalMatchesPositionalModelWrong)

/-- 'zzlaws_protocol_b1.FnDecimalIgnoresLeadingZeros': WHATEVER THE INPUT: true; the input reads as it did. -/
def fnDecimalIgnoresLeadingZerosSpec : ChangeSpec := { name := "fnDecimalIgnoresLeadingZeros", fn := fun _ => fun
  | [d1, d2, d3, d4] => { results := [.lit (.bool true)], args := [d1, d2, d3, d4] }
  | _ => none }
def fnDecimalIgnoresLeadingZerosRow : OpenClaim := { program := "qxb6601329a", sum := "8802b2322dec9d490a63b9bd69e051f2fccffae8fc820d9bd105d29754e4ba07", func := "example.com/intentd/intentd/zzlaws_protocol_b1.FnDecimalIgnoresLeadingZeros", spec := "fnDecimalIgnoresLeadingZeros", apart := false }
def FnDecimalIgnoresLeadingZerosSaid : Prop := fnDecimalIgnoresLeadingZerosRow.holds Try.pinned (OpenSpec.ofChange fnDecimalIgnoresLeadingZerosSpec)

/-- ITS FALSE NEIGHBOUR: 'it returns false'. Refute it at one input. -/
def fnDecimalIgnoresLeadingZerosWrong : ChangeSpec := { name := "fnDecimalIgnoresLeadingZeros", fn := fun _ => fun
  | [d1, d2, d3, d4] => { results := [.lit (.bool false)], args := [d1, d2, d3, d4] }
  | _ => none }
def FnDecimalIgnoresLeadingZerosWrongFalsely : Prop := fnDecimalIgnoresLeadingZerosRow.holds Try.pinned (OpenSpec.ofChange fnDecimalIgnoresLeadingZerosWrong)

end Rows
end Go.Proofs.Qxb6601329a
