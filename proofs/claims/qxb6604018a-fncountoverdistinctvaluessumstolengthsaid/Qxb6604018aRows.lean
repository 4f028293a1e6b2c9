/-
  No cell of these rows narrows 'for every input' (looked for: loops, veiled, ifaces, maps, wideKeys, modest, calm, conditions, laid).
  DERIVED. THE GIVEN ROWS OF THIS SEAT. 2 by the template 'for every input the law returns true; each argument reads behind the call as it read before'; 0 by the template 'total and deterministic' (their statements: Qxb6604018aTotals.lean).
  GIVEN WITH THE SEED: the statements are not yours to turn. If you find one false, say at which input.
  Laid BY PROGRAM, IN A SANDBOX (cutbox-rows.mjs): the forced cells as the released guide's own fill.sh prints them over the translation 2ad46538ec6d153b… (all of the seat's roots in one cut). By AI agents, Wed Nov 11 2026. No macro, syntax, notation, axiom, sorry.
-/
import Derived.Test.Qxb6604018aChecked
import GoSem.Claim
import GoSem.ClaimJoined
import GoSem.ClaimMapViews
import Derived.JoinedTies
import Derived.KernelRfl
namespace Go.Proofs.Qxb6604018a
/- THE CELL 'sum', in the pinned program and in every row, IS THE sha256 OF THE DUMP (.gsa) THAT Qxb6604018aProg.lean LOADS. Nothing in Lean hashes anything: it is a label: what it is worth is what the hold of that sum in a sandbox is worth. -/
noncomputable def Try.pinned : Pinned := { name := "qxb6604018a", sum := "2ad46538ec6d153b7a7597662f053a9d43e23f57b818a04ad7577e88e2fca9ec", checked := Try.checked }
namespace Rows
def none {H : Type} : Left H := { results := [], args := [] }

/-- 'zzlaws_pkg_closing_b1.FnCountEqualsHalvingTally': WHATEVER THE INPUT: true; the input reads as it did. -/
def fnCountEqualsHalvingTallySpec : ChangeSpec := { name := "fnCountEqualsHalvingTally", fn := fun _ => fun
  | [d1, d2] => { results := [.lit (.bool true)], args := [d1, d2] }
  | _ => none }
def fnCountEqualsHalvingTallyRow : OpenClaim := { program := "qxb6604018a", sum := "2ad46538ec6d153b7a7597662f053a9d43e23f57b818a04ad7577e88e2fca9ec", func := "example.com/kowhai-rates/kowhai-rates/zzlaws_pkg_closing_b1.FnCountEqualsHalvingTally", spec := "fnCountEqualsHalvingTally", recurses := true, apart := false }
def FnCountEqualsHalvingTallySaid : Prop := fnCountEqualsHalvingTallyRow.holds Try.pinned (OpenSpec.ofChange fnCountEqualsHalvingTallySpec)

/-- ITS FALSE NEIGHBOUR: 'it returns false'. Refute it at one input. -/
def fnCountEqualsHalvingTallyWrong : ChangeSpec := { name := "fnCountEqualsHalvingTally", fn := fun _ => fun
  | [d1, d2] => { results := [.lit (.bool false)], args := [d1, d2] }
  | _ => none }
def FnCountEqualsHalvingTallyWrongFalsely : Prop := fnCountEqualsHalvingTallyRow.holds Try.pinned (OpenSpec.ofChange fnCountEqualsHalvingTallyWrong)

/-- 'zzlaws_pkg_closing_b1.FnCountOverDistinctValuesSumsToLength': WHATEVER THE INPUT: true; the input reads as it did. -/
def fnCountOverDistinctValuesSumsToLengthSpec : ChangeSpec := { name := "fnCountOverDistinctValuesSumsToLength", fn := fun _ => fun
  | [d] => { results := [.lit (.bool true)], args := [d] }
  | _ => none }
def fnCountOverDistinctValuesSumsToLengthRow : OpenClaim := { program := "qxb6604018a", sum := "2ad46538ec6d153b7a7597662f053a9d43e23f57b818a04ad7577e88e2fca9ec", func := "example.com/kowhai-rates/kowhai-rates/zzlaws_pkg_closing_b1.FnCountOverDistinctValuesSumsToLength", spec := "fnCountOverDistinctValuesSumsToLength", apart := false }
def FnCountOverDistinctValuesSumsToLengthSaid : Prop := fnCountOverDistinctValuesSumsToLengthRow.holds Try.pinned (OpenSpec.ofChange fnCountOverDistinctValuesSumsToLengthSpec)

/-- ITS FALSE NEIGHBOUR: 'it returns false'. Refute it at one input. -/
def fnCountOverDistinctValuesSumsToLengthWrong : ChangeSpec := { name := "fnCountOverDistinctValuesSumsToLength", fn := fun _ => fun
  | [d] => { results := [.lit (.bool false)], args := [d] }
  | _ => none }
def FnCountOverDistinctValuesSumsToLengthWrongFalsely : Prop := fnCountOverDistinctValuesSumsToLengthRow.holds Try.pinned (OpenSpec.ofChange fnCountOverDistinctValuesSumsToLengthWrong)

end Rows
end Go.Proofs.Qxb6604018a
