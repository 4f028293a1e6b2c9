/-
  No cell of these rows narrows 'for every input' (looked for: loops, veiled, ifaces, maps, wideKeys, modest, calm, conditions, laid).
  DERIVED. THE GIVEN ROWS OF THIS SEAT. 2 by the template 'for every input the law returns true; each argument reads behind the call as it read before'; 0 by the template 'total and deterministic' (their statements: Qxb6603906aTotals.lean).
  GIVEN WITH THE SEED: the statements are not yours to turn. If you find one false, say at which input.
  Laid BY PROGRAM, IN A SANDBOX (cutbox-rows.mjs): the forced cells as the released guide's own fill.sh prints them over the translation e49d180b749e9ad2… (all of the seat's roots in one cut). By AI agents, Wed Nov 11 2026. No macro, syntax, notation, axiom, sorry.
-/
import Derived.Test.Qxb6603906aChecked
import GoSem.Claim
import GoSem.ClaimJoined
import GoSem.ClaimMapViews
import Derived.JoinedTies
import Derived.KernelRfl
namespace Go.Proofs.Qxb6603906a
/- THE CELL 'sum', in the pinned program and in every row, IS THE sha256 OF THE DUMP (.gsa) THAT Qxb6603906aProg.lean LOADS. Nothing in Lean hashes anything: it is a label: what it is worth is what the hold of that sum in a sandbox is worth. -/
noncomputable def Try.pinned : Pinned := { name := "qxb6603906a", sum := "e49d180b749e9ad2c8d6a58eec8e930f4369f437cdd4fd28826ae7a8a99423ce", checked := Try.checked }
namespace Rows
def none {H : Type} : Left H := { results := [], args := [] }

/-- 'zzlaws_internal_decimal_b1.FnAppendTextMatchesPositionalModel': WHATEVER THE INPUT: true; the input reads as it did. -/
def fnAppendTextMatchesPositionalModelSpec : ChangeSpec := { name := "fnAppendTextMatchesPositionalModel", fn := fun _ => fun
  | [d1, d2, d3, d4] => { results := [.lit (.bool true)], args := [d1, d2, d3, d4] }
  | _ => none }
def fnAppendTextMatchesPositionalModelRow : OpenClaim := { program := "qxb6603906a", sum := "e49d180b749e9ad2c8d6a58eec8e930f4369f437cdd4fd28826ae7a8a99423ce", func := "example.com/threadline/threadline/zzlaws_internal_decimal_b1.FnAppendTextMatchesPositionalModel", spec := "fnAppendTextMatchesPositionalModel", apart := false }
def FnAppendTextMatchesPositionalModelSaid : Prop := fnAppendTextMatchesPositionalModelRow.holds Try.pinned (OpenSpec.ofChange fnAppendTextMatchesPositionalModelSpec)

/-- ITS FALSE NEIGHBOUR: 'it returns false'. Refute it at one input. -/
def fnAppendTextMatchesPositionalModelWrong : ChangeSpec := { name := "fnAppendTextMatchesPositionalModel", fn := fun _ => fun
  | [d1, d2, d3, d4] => { results := [.lit (.bool false)], args := [d1, d2, d3, d4] }
  | _ => none }
def FnAppendTextMatchesPositionalModelWrongFalsely : Prop := fnAppendTextMatchesPositionalModelRow.holds Try.pinned (OpenSpec.ofChange fnAppendTextMatchesPositionalModelWrong)

/-- 'zzlaws_internal_decimal_b1.FnTextLengthAgreesWithAppendText': WHATEVER THE INPUT: true; the input reads as it did. -/
def fnTextLengthAgreesWithAppendTextSpec : ChangeSpec := { name := "fnTextLengthAgreesWithAppendText", fn := fun _ => fun
  | [d1, d2, d3, d4] => { results := [.lit (.bool true)], args := [d1, d2, d3, d4] }
  | _ => none }
def fnTextLengthAgreesWithAppendTextRow : OpenClaim := { program := "qxb6603906a", sum := "e49d180b749e9ad2c8d6a58eec8e930f4369f437cdd4fd28826ae7a8a99423ce", func := "example.com/threadline/threadline/zzlaws_internal_decimal_b1.FnTextLengthAgreesWithAppendText", spec := "fnTextLengthAgreesWithAppendText", apart := false }
def FnTextLengthAgreesWithAppendTextSaid : Prop := fnTextLengthAgreesWithAppendTextRow.holds Try.pinned (OpenSpec.ofChange fnTextLengthAgreesWithAppendTextSpec)

/-- ITS FALSE NEIGHBOUR: 'it returns false'. Refute it at one input. -/
def fnTextLengthAgreesWithAppendTextWrong : ChangeSpec := { name := "fnTextLengthAgreesWithAppendText", fn := fun _ => fun
  | [d1, d2, d3, d4] => { results := [.lit (.bool false)], args := [d1, d2, d3, d4] }
  | _ => none }
def FnTextLengthAgreesWithAppendTextWrongFalsely : Prop := fnTextLengthAgreesWithAppendTextRow.holds Try.pinned (OpenSpec.ofChange fnTextLengthAgreesWithAppendTextWrong)

end Rows
end Go.Proofs.Qxb6603906a
