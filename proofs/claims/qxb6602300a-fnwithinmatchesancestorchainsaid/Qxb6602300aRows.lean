/-
  No cell of these rows narrows 'for every input' (looked for: loops, veiled, ifaces, maps, wideKeys, modest, calm, conditions, laid).
  DERIVED. THE GIVEN ROWS OF THIS SEAT. 4 by the template 'for every input the law returns true; each argument reads behind the call as it read before'; 0 by the template 'total and deterministic' (their statements: Qxb6602300aTotals.lean).
  GIVEN WITH THE SEED: the statements are not yours to turn. If you find one false, say at which input.
  Laid BY PROGRAM, IN A SANDBOX (cutbox-rows.mjs): the forced cells as the released guide's own fill.sh prints them over the translation 71df5524514e307b… (all of the seat's roots in one cut). By AI agents, Wed Nov 11 2026. No macro, syntax, notation, axiom, sorry.
-/
import Derived.Test.Qxb6602300aChecked
import GoSem.Claim
import GoSem.ClaimJoined
import GoSem.ClaimMapViews
import Derived.JoinedTies
import Derived.KernelRfl
namespace Go.Proofs.Qxb6602300a
/- THE CELL 'sum', in the pinned program and in every row, IS THE sha256 OF THE DUMP (.gsa) THAT Qxb6602300aProg.lean LOADS. Nothing in Lean hashes anything: it is a label: what it is worth is what the hold of that sum in a sandbox is worth. -/
noncomputable def Try.pinned : Pinned := { name := "qxb6602300a", sum := "71df5524514e307b7a10cac089828a61070f60d484b58267eb8bcf240939da21", checked := Try.checked }
namespace Rows
def none {H : Type} : Left H := { results := [], args := [] }

/-- 'zzlaws_pkg_entity_b1.FnWithinMatchesAncestorChain': WHATEVER THE INPUT: true; the input reads as it did. -/
def fnWithinMatchesAncestorChainSpec : ChangeSpec := { name := "fnWithinMatchesAncestorChain", fn := fun _ => fun
  | [d1, d2, d3, d4] => { results := [.lit (.bool true)], args := [d1, d2, d3, d4] }
  | _ => none }
def fnWithinMatchesAncestorChainRow : OpenClaim := { program := "qxb6602300a", sum := "71df5524514e307b7a10cac089828a61070f60d484b58267eb8bcf240939da21", func := "example.com/rights-ledger/rights-ledger/zzlaws_pkg_entity_b1.FnWithinMatchesAncestorChain", spec := "fnWithinMatchesAncestorChain", apart := false }
def FnWithinMatchesAncestorChainSaid : Prop := fnWithinMatchesAncestorChainRow.holds Try.pinned (OpenSpec.ofChange fnWithinMatchesAncestorChainSpec)

/-- ITS FALSE NEIGHBOUR: 'it returns false'. Refute it at one input. -/
def fnWithinMatchesAncestorChainWrong : ChangeSpec := { name := "fnWithinMatchesAncestorChain", fn := fun _ => fun
  | [d1, d2, d3, d4] => { results := [.lit (.bool false)], args := [d1, d2, d3, d4] }
  | _ => none }
def FnWithinMatchesAncestorChainWrongFalsely : Prop := fnWithinMatchesAncestorChainRow.holds Try.pinned (OpenSpec.ofChange fnWithinMatchesAncestorChainWrong)

/-- 'zzlaws_pkg_entity_b1.FnWithinIsTransitive': WHATEVER THE INPUT: true; the input reads as it did. -/
def fnWithinIsTransitiveSpec : ChangeSpec := { name := "fnWithinIsTransitive", fn := fun _ => fun
  | [d1, d2, d3, d4, d5] => { results := [.lit (.bool true)], args := [d1, d2, d3, d4, d5] }
  | _ => none }
def fnWithinIsTransitiveRow : OpenClaim := { program := "qxb6602300a", sum := "71df5524514e307b7a10cac089828a61070f60d484b58267eb8bcf240939da21", func := "example.com/rights-ledger/rights-ledger/zzlaws_pkg_entity_b1.FnWithinIsTransitive", spec := "fnWithinIsTransitive", apart := false }
def FnWithinIsTransitiveSaid : Prop := fnWithinIsTransitiveRow.holds Try.pinned (OpenSpec.ofChange fnWithinIsTransitiveSpec)

/-- ITS FALSE NEIGHBOUR: 'it returns false'. Refute it at one input. -/
def fnWithinIsTransitiveWrong : ChangeSpec := { name := "fnWithinIsTransitive", fn := fun _ => fun
  | [d1, d2, d3, d4, d5] => { results := [.lit (.bool false)], args := [d1, d2, d3, d4, d5] }
  | _ => none }
def FnWithinIsTransitiveWrongFalsely : Prop := fnWithinIsTransitiveRow.holds Try.pinned (OpenSpec.ofChange fnWithinIsTransitiveWrong)

/-- 'zzlaws_pkg_entity_b1.FnWithinHolderIsOfTypeAndFixed': WHATEVER THE INPUT: true; the input reads as it did. -/
def fnWithinHolderIsOfTypeAndFixedSpec : ChangeSpec := { name := "fnWithinHolderIsOfTypeAndFixed", fn := fun _ => fun
  | [d1, d2, d3, d4] => { results := [.lit (.bool true)], args := [d1, d2, d3, d4] }
  | _ => none }
def fnWithinHolderIsOfTypeAndFixedRow : OpenClaim := { program := "qxb6602300a", sum := "71df5524514e307b7a10cac089828a61070f60d484b58267eb8bcf240939da21", func := "example.com/rights-ledger/rights-ledger/zzlaws_pkg_entity_b1.FnWithinHolderIsOfTypeAndFixed", spec := "fnWithinHolderIsOfTypeAndFixed", apart := false }
def FnWithinHolderIsOfTypeAndFixedSaid : Prop := fnWithinHolderIsOfTypeAndFixedRow.holds Try.pinned (OpenSpec.ofChange fnWithinHolderIsOfTypeAndFixedSpec)

/-- ITS FALSE NEIGHBOUR: 'it returns false'. Refute it at one input. -/
def fnWithinHolderIsOfTypeAndFixedWrong : ChangeSpec := { name := "fnWithinHolderIsOfTypeAndFixed", fn := fun _ => fun
  | [d1, d2, d3, d4] => { results := [.lit (.bool false)], args := [d1, d2, d3, d4] }
  | _ => none }
def FnWithinHolderIsOfTypeAndFixedWrongFalsely : Prop := fnWithinHolderIsOfTypeAndFixedRow.holds Try.pinned (OpenSpec.ofChange fnWithinHolderIsOfTypeAndFixedWrong)

/-- 'zzlaws_pkg_entity_b1.FnContainsSplitsOverConcat': WHATEVER THE INPUT: true; the input reads as it did. -/
def fnContainsSplitsOverConcatSpec : ChangeSpec := { name := "fnContainsSplitsOverConcat", fn := fun _ => fun
  | [d1, d2, d3] => { results := [.lit (.bool true)], args := [d1, d2, d3] }
  | _ => none }
def fnContainsSplitsOverConcatRow : OpenClaim := { program := "qxb6602300a", sum := "71df5524514e307b7a10cac089828a61070f60d484b58267eb8bcf240939da21", func := "example.com/rights-ledger/rights-ledger/zzlaws_pkg_entity_b1.FnContainsSplitsOverConcat", spec := "fnContainsSplitsOverConcat", apart := false }
def FnContainsSplitsOverConcatSaid : Prop := fnContainsSplitsOverConcatRow.holds Try.pinned (OpenSpec.ofChange fnContainsSplitsOverConcatSpec)

/-- ITS FALSE NEIGHBOUR: 'it returns false'. Refute it at one input. -/
def fnContainsSplitsOverConcatWrong : ChangeSpec := { name := "fnContainsSplitsOverConcat", fn := fun _ => fun
  | [d1, d2, d3] => { results := [.lit (.bool false)], args := [d1, d2, d3] }
  | _ => none }
def FnContainsSplitsOverConcatWrongFalsely : Prop := fnContainsSplitsOverConcatRow.holds Try.pinned (OpenSpec.ofChange fnContainsSplitsOverConcatWrong)

end Rows
end Go.Proofs.Qxb6602300a
