/-
  No cell of these rows narrows 'for every input' (looked for: loops, veiled, ifaces, maps, wideKeys, modest, calm, conditions, laid).
  DERIVED. THE GIVEN ROWS OF THIS SEAT. 5 by the template 'for every input the law returns true; each argument reads behind the call as it read before'; 0 by the template 'total and deterministic' (their statements: Qxb6602269aTotals.lean).
  GIVEN WITH THE SEED: the statements are not yours to turn. If you find one false, say at which input.
  Laid BY PROGRAM, IN A SANDBOX (cutbox-rows.mjs): the forced cells as the released guide's own fill.sh prints them over the translation 422d2c3c5fc7516c… (all of the seat's roots in one cut). By AI agents, Wed Nov 11 2026. No macro, syntax, notation, axiom, sorry.
-/
import Derived.Test.Qxb6602269aChecked
import GoSem.Claim
import GoSem.ClaimJoined
import GoSem.ClaimMapViews
import Derived.JoinedTies
import Derived.KernelRfl
namespace Go.Proofs.Qxb6602269a
/- THE CELL 'sum', in the pinned program and in every row, IS THE sha256 OF THE DUMP (.gsa) THAT Qxb6602269aProg.lean LOADS. Nothing in Lean hashes anything: it is a label: what it is worth is what the hold of that sum in a sandbox is worth. -/
noncomputable def Try.pinned : Pinned := { name := "qxb6602269a", sum := "422d2c3c5fc7516c66931845a915a83396cd764c77ac74868f4f29adfe6c7900", checked := Try.checked }
namespace Rows
def none {H : Type} : Left H := { results := [], args := [] }

/-- 'zzlaws_root_b1.FnNumberEndMatchesGrammarAutomaton': WHATEVER THE INPUT: true; the input reads as it did. -/
def fnNumberEndMatchesGrammarAutomatonSpec : ChangeSpec := { name := "fnNumberEndMatchesGrammarAutomaton", fn := fun _ => fun
  | [d1, d2] => { results := [.lit (.bool true)], args := [d1, d2] }
  | _ => none }
def fnNumberEndMatchesGrammarAutomatonRow : OpenClaim := { program := "qxb6602269a", sum := "422d2c3c5fc7516c66931845a915a83396cd764c77ac74868f4f29adfe6c7900", func := "example.com/hubbub/hubbub/zzlaws_root_b1.FnNumberEndMatchesGrammarAutomaton", spec := "fnNumberEndMatchesGrammarAutomaton", unfollowed := true, recurses := true, apart := false }
def FnNumberEndMatchesGrammarAutomatonSaid : Prop := fnNumberEndMatchesGrammarAutomatonRow.holds Try.pinned (OpenSpec.ofChange fnNumberEndMatchesGrammarAutomatonSpec)

/-- ITS FALSE NEIGHBOUR: 'it returns false'. Refute it at one input. -/
def fnNumberEndMatchesGrammarAutomatonWrong : ChangeSpec := { name := "fnNumberEndMatchesGrammarAutomaton", fn := fun _ => fun
  | [d1, d2] => { results := [.lit (.bool false)], args := [d1, d2] }
  | _ => none }
def FnNumberEndMatchesGrammarAutomatonWrongFalsely : Prop := fnNumberEndMatchesGrammarAutomatonRow.holds Try.pinned (OpenSpec.ofChange fnNumberEndMatchesGrammarAutomatonWrong)

/-- 'zzlaws_root_b1.FnNumberEndShiftInvariant': WHATEVER THE INPUT: true; the input reads as it did. -/
def fnNumberEndShiftInvariantSpec : ChangeSpec := { name := "fnNumberEndShiftInvariant", fn := fun _ => fun
  | [d1, d2] => { results := [.lit (.bool true)], args := [d1, d2] }
  | _ => none }
def fnNumberEndShiftInvariantRow : OpenClaim := { program := "qxb6602269a", sum := "422d2c3c5fc7516c66931845a915a83396cd764c77ac74868f4f29adfe6c7900", func := "example.com/hubbub/hubbub/zzlaws_root_b1.FnNumberEndShiftInvariant", spec := "fnNumberEndShiftInvariant", unfollowed := true, recurses := true, apart := false }
def FnNumberEndShiftInvariantSaid : Prop := fnNumberEndShiftInvariantRow.holds Try.pinned (OpenSpec.ofChange fnNumberEndShiftInvariantSpec)

/-- ITS FALSE NEIGHBOUR: 'it returns false'. Refute it at one input. -/
def fnNumberEndShiftInvariantWrong : ChangeSpec := { name := "fnNumberEndShiftInvariant", fn := fun _ => fun
  | [d1, d2] => { results := [.lit (.bool false)], args := [d1, d2] }
  | _ => none }
def FnNumberEndShiftInvariantWrongFalsely : Prop := fnNumberEndShiftInvariantRow.holds Try.pinned (OpenSpec.ofChange fnNumberEndShiftInvariantWrong)

/-- 'zzlaws_root_b1.FnNumberEndStopsWithinAndSurvivesTruncation': WHATEVER THE INPUT: true; the input reads as it did. -/
def fnNumberEndStopsWithinAndSurvivesTruncationSpec : ChangeSpec := { name := "fnNumberEndStopsWithinAndSurvivesTruncation", fn := fun _ => fun
  | [d1, d2] => { results := [.lit (.bool true)], args := [d1, d2] }
  | _ => none }
def fnNumberEndStopsWithinAndSurvivesTruncationRow : OpenClaim := { program := "qxb6602269a", sum := "422d2c3c5fc7516c66931845a915a83396cd764c77ac74868f4f29adfe6c7900", func := "example.com/hubbub/hubbub/zzlaws_root_b1.FnNumberEndStopsWithinAndSurvivesTruncation", spec := "fnNumberEndStopsWithinAndSurvivesTruncation", unfollowed := true, recurses := true, apart := false }
def FnNumberEndStopsWithinAndSurvivesTruncationSaid : Prop := fnNumberEndStopsWithinAndSurvivesTruncationRow.holds Try.pinned (OpenSpec.ofChange fnNumberEndStopsWithinAndSurvivesTruncationSpec)

/-- ITS FALSE NEIGHBOUR: 'it returns false'. Refute it at one input. -/
def fnNumberEndStopsWithinAndSurvivesTruncationWrong : ChangeSpec := { name := "fnNumberEndStopsWithinAndSurvivesTruncation", fn := fun _ => fun
  | [d1, d2] => { results := [.lit (.bool false)], args := [d1, d2] }
  | _ => none }
def FnNumberEndStopsWithinAndSurvivesTruncationWrongFalsely : Prop := fnNumberEndStopsWithinAndSurvivesTruncationRow.holds Try.pinned (OpenSpec.ofChange fnNumberEndStopsWithinAndSurvivesTruncationWrong)

/-- 'zzlaws_root_b1.FnFitsAcceptsItselfExactlyWithoutDigitMark': WHATEVER THE INPUT: true; the input reads as it did. -/
def fnFitsAcceptsItselfExactlyWithoutDigitMarkSpec : ChangeSpec := { name := "fnFitsAcceptsItselfExactlyWithoutDigitMark", fn := fun _ => fun
  | [d] => { results := [.lit (.bool true)], args := [d] }
  | _ => none }
def fnFitsAcceptsItselfExactlyWithoutDigitMarkRow : OpenClaim := { program := "qxb6602269a", sum := "422d2c3c5fc7516c66931845a915a83396cd764c77ac74868f4f29adfe6c7900", func := "example.com/hubbub/hubbub/zzlaws_root_b1.FnFitsAcceptsItselfExactlyWithoutDigitMark", spec := "fnFitsAcceptsItselfExactlyWithoutDigitMark", apart := false }
def FnFitsAcceptsItselfExactlyWithoutDigitMarkSaid : Prop := fnFitsAcceptsItselfExactlyWithoutDigitMarkRow.holds Try.pinned (OpenSpec.ofChange fnFitsAcceptsItselfExactlyWithoutDigitMarkSpec)

/-- ITS FALSE NEIGHBOUR: 'it returns false'. Refute it at one input. -/
def fnFitsAcceptsItselfExactlyWithoutDigitMarkWrong : ChangeSpec := { name := "fnFitsAcceptsItselfExactlyWithoutDigitMark", fn := fun _ => fun
  | [d] => { results := [.lit (.bool false)], args := [d] }
  | _ => none }
def FnFitsAcceptsItselfExactlyWithoutDigitMarkWrongFalsely : Prop := fnFitsAcceptsItselfExactlyWithoutDigitMarkRow.holds Try.pinned (OpenSpec.ofChange fnFitsAcceptsItselfExactlyWithoutDigitMarkWrong)

/-- 'zzlaws_root_b1.FnFitsSplitsOverConcatenation': WHATEVER THE INPUT: true; the input reads as it did. -/
def fnFitsSplitsOverConcatenationSpec : ChangeSpec := { name := "fnFitsSplitsOverConcatenation", fn := fun _ => fun
  | [d1, d2, d3, d4] => { results := [.lit (.bool true)], args := [d1, d2, d3, d4] }
  | _ => none }
def fnFitsSplitsOverConcatenationRow : OpenClaim := { program := "qxb6602269a", sum := "422d2c3c5fc7516c66931845a915a83396cd764c77ac74868f4f29adfe6c7900", func := "example.com/hubbub/hubbub/zzlaws_root_b1.FnFitsSplitsOverConcatenation", spec := "fnFitsSplitsOverConcatenation", apart := false }
def FnFitsSplitsOverConcatenationSaid : Prop := fnFitsSplitsOverConcatenationRow.holds Try.pinned (OpenSpec.ofChange fnFitsSplitsOverConcatenationSpec)

/-- ITS FALSE NEIGHBOUR: 'it returns false'. Refute it at one input. -/
def fnFitsSplitsOverConcatenationWrong : ChangeSpec := { name := "fnFitsSplitsOverConcatenation", fn := fun _ => fun
  | [d1, d2, d3, d4] => { results := [.lit (.bool false)], args := [d1, d2, d3, d4] }
  | _ => none }
def FnFitsSplitsOverConcatenationWrongFalsely : Prop := fnFitsSplitsOverConcatenationRow.holds Try.pinned (OpenSpec.ofChange fnFitsSplitsOverConcatenationWrong)

end Rows
end Go.Proofs.Qxb6602269a
