/-
  No cell of these rows narrows 'for every input' (looked for: loops, veiled, ifaces, maps, wideKeys, modest, calm, conditions, laid).
  DERIVED. THE GIVEN ROWS OF THIS SEAT. 3 by the template 'for every input the law returns true; each argument reads behind the call as it read before'; 0 by the template 'total and deterministic' (their statements: Qxb6603850aTotals.lean).
  GIVEN WITH THE SEED: the statements are not yours to turn. If you find one false, say at which input.
  Laid BY PROGRAM, IN A SANDBOX (cutbox-rows.mjs): the forced cells as the released guide's own fill.sh prints them over the translation 38dc070745040112… (all of the seat's roots in one cut). By AI agents, Wed Nov 11 2026. No macro, syntax, notation, axiom, sorry.
-/
import Derived.Test.Qxb6603850aChecked
import GoSem.Claim
import GoSem.ClaimJoined
import GoSem.ClaimMapViews
import Derived.JoinedTies
import Derived.KernelRfl
namespace Go.Proofs.Qxb6603850a
/- THE CELL 'sum', in the pinned program and in every row, IS THE sha256 OF THE DUMP (.gsa) THAT Qxb6603850aProg.lean LOADS. Nothing in Lean hashes anything: it is a label: what it is worth is what the hold of that sum in a sandbox is worth. -/
noncomputable def Try.pinned : Pinned := { name := "qxb6603850a", sum := "38dc070745040112f92db607ecd8006fe0507df89cc7dec2f8918432bb0907a2", checked := Try.checked }
namespace Rows
def none {H : Type} : Left H := { results := [], args := [] }

/-- 'zzlaws_internal_deflate_b1.FnRunLengthsMatchesRunByRunDivision': WHATEVER THE INPUT: true; the input reads as it did. -/
def fnRunLengthsMatchesRunByRunDivisionSpec : ChangeSpec := { name := "fnRunLengthsMatchesRunByRunDivision", fn := fun _ => fun
  | [d] => { results := [.lit (.bool true)], args := [d] }
  | _ => none }
def fnRunLengthsMatchesRunByRunDivisionRow : OpenClaim := { program := "qxb6603850a", sum := "38dc070745040112f92db607ecd8006fe0507df89cc7dec2f8918432bb0907a2", func := "example.com/predict-then-pack/predict-then-pack/zzlaws_internal_deflate_b1.FnRunLengthsMatchesRunByRunDivision", spec := "fnRunLengthsMatchesRunByRunDivision", apart := false }
def FnRunLengthsMatchesRunByRunDivisionSaid : Prop := fnRunLengthsMatchesRunByRunDivisionRow.holds Try.pinned (OpenSpec.ofChange fnRunLengthsMatchesRunByRunDivisionSpec)

/-- ITS FALSE NEIGHBOUR: 'it returns false'. Refute it at one input. -/
def fnRunLengthsMatchesRunByRunDivisionWrong : ChangeSpec := { name := "fnRunLengthsMatchesRunByRunDivision", fn := fun _ => fun
  | [d] => { results := [.lit (.bool false)], args := [d] }
  | _ => none }
def FnRunLengthsMatchesRunByRunDivisionWrongFalsely : Prop := fnRunLengthsMatchesRunByRunDivisionRow.holds Try.pinned (OpenSpec.ofChange fnRunLengthsMatchesRunByRunDivisionWrong)

/-- 'zzlaws_internal_deflate_b1.FnRunLengthsDecodesBackToTheLengths': WHATEVER THE INPUT: true; the input reads as it did. -/
def fnRunLengthsDecodesBackToTheLengthsSpec : ChangeSpec := { name := "fnRunLengthsDecodesBackToTheLengths", fn := fun _ => fun
  | [d] => { results := [.lit (.bool true)], args := [d] }
  | _ => none }
def fnRunLengthsDecodesBackToTheLengthsRow : OpenClaim := { program := "qxb6603850a", sum := "38dc070745040112f92db607ecd8006fe0507df89cc7dec2f8918432bb0907a2", func := "example.com/predict-then-pack/predict-then-pack/zzlaws_internal_deflate_b1.FnRunLengthsDecodesBackToTheLengths", spec := "fnRunLengthsDecodesBackToTheLengths", apart := false }
def FnRunLengthsDecodesBackToTheLengthsSaid : Prop := fnRunLengthsDecodesBackToTheLengthsRow.holds Try.pinned (OpenSpec.ofChange fnRunLengthsDecodesBackToTheLengthsSpec)

/-- ITS FALSE NEIGHBOUR: 'it returns false'. Refute it at one input. -/
def fnRunLengthsDecodesBackToTheLengthsWrong : ChangeSpec := { name := "fnRunLengthsDecodesBackToTheLengths", fn := fun _ => fun
  | [d] => { results := [.lit (.bool false)], args := [d] }
  | _ => none }
def FnRunLengthsDecodesBackToTheLengthsWrongFalsely : Prop := fnRunLengthsDecodesBackToTheLengthsRow.holds Try.pinned (OpenSpec.ofChange fnRunLengthsDecodesBackToTheLengthsWrong)

/-- 'zzlaws_internal_deflate_b1.FnInsertRunLinksEachPositionToTheLastBeforeIt': WHATEVER THE INPUT: true; the input reads as it did. -/
def fnInsertRunLinksEachPositionToTheLastBeforeItSpec : ChangeSpec := { name := "fnInsertRunLinksEachPositionToTheLastBeforeIt", fn := fun _ => fun
  | [d1, d2, d3, d4, d5, d6, d7, d8] => { results := [.lit (.bool true)], args := [d1, d2, d3, d4, d5, d6, d7, d8] }
  | _ => none }
def fnInsertRunLinksEachPositionToTheLastBeforeItRow : OpenClaim := { program := "qxb6603850a", sum := "38dc070745040112f92db607ecd8006fe0507df89cc7dec2f8918432bb0907a2", func := "example.com/predict-then-pack/predict-then-pack/zzlaws_internal_deflate_b1.FnInsertRunLinksEachPositionToTheLastBeforeIt", spec := "fnInsertRunLinksEachPositionToTheLastBeforeIt", apart := false }
def FnInsertRunLinksEachPositionToTheLastBeforeItSaid : Prop := fnInsertRunLinksEachPositionToTheLastBeforeItRow.holds Try.pinned (OpenSpec.ofChange fnInsertRunLinksEachPositionToTheLastBeforeItSpec)

/-- ITS FALSE NEIGHBOUR: 'it returns false'. Refute it at one input. -/
def fnInsertRunLinksEachPositionToTheLastBeforeItWrong : ChangeSpec := { name := "fnInsertRunLinksEachPositionToTheLastBeforeIt", fn := fun _ => fun
  | [d1, d2, d3, d4, d5, d6, d7, d8] => { results := [.lit (.bool false)], args := [d1, d2, d3, d4, d5, d6, d7, d8] }
  | _ => none }
def FnInsertRunLinksEachPositionToTheLastBeforeItWrongFalsely : Prop := fnInsertRunLinksEachPositionToTheLastBeforeItRow.holds Try.pinned (OpenSpec.ofChange fnInsertRunLinksEachPositionToTheLastBeforeItWrong)

end Rows
end Go.Proofs.Qxb6603850a
