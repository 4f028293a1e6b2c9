/-
  No cell of these rows narrows 'for every input' (looked for: loops, veiled, ifaces, maps, wideKeys, modest, calm, conditions, laid).
  DERIVED. THE GIVEN ROWS OF THIS SEAT. 3 by the template 'for every input the law returns true; each argument reads behind the call as it read before'; 0 by the template 'total and deterministic' (their statements: Qxb6603973aTotals.lean).
  GIVEN WITH THE SEED: the statements are not yours to turn. If you find one false, say at which input.
  Laid BY PROGRAM, IN A SANDBOX (cutbox-rows.mjs): the forced cells as the released guide's own fill.sh prints them over the translation 4dee3cabea697cf7… (all of the seat's roots in one cut). By AI agents, Wed Nov 11 2026. No macro, syntax, notation, axiom, sorry.
-/
import Derived.Test.Qxb6603973aChecked
import GoSem.Claim
import GoSem.ClaimJoined
import GoSem.ClaimMapViews
import Derived.JoinedTies
import Derived.KernelRfl
namespace Go.Proofs.Qxb6603973a
/- THE CELL 'sum', in the pinned program and in every row, IS THE sha256 OF THE DUMP (.gsa) THAT Qxb6603973aProg.lean LOADS. Nothing in Lean hashes anything: it is a label: what it is worth is what the hold of that sum in a sandbox is worth. -/
noncomputable def Try.pinned : Pinned := { name := "qxb6603973a", sum := "4dee3cabea697cf7d4511f35232acdf55a76bf99edafc3ec907c3726e747447e", checked := Try.checked }
namespace Rows
def none {H : Type} : Left H := { results := [], args := [] }

/-- 'zzlaws_internal_ledger_b1.FnValidIDMatchesGroupReader': WHATEVER THE INPUT: true; the input reads as it did. -/
def fnValidIDMatchesGroupReaderSpec : ChangeSpec := { name := "fnValidIDMatchesGroupReader", fn := fun _ => fun
  | [d] => { results := [.lit (.bool true)], args := [d] }
  | _ => none }
def fnValidIDMatchesGroupReaderRow : OpenClaim := { program := "qxb6603973a", sum := "4dee3cabea697cf7d4511f35232acdf55a76bf99edafc3ec907c3726e747447e", func := "example.com/tallymark/tallymark/zzlaws_internal_ledger_b1.FnValidIDMatchesGroupReader", spec := "fnValidIDMatchesGroupReader", apart := false }
def FnValidIDMatchesGroupReaderSaid : Prop := fnValidIDMatchesGroupReaderRow.holds Try.pinned (OpenSpec.ofChange fnValidIDMatchesGroupReaderSpec)

/-- ITS FALSE NEIGHBOUR: 'it returns false'. Refute it at one input. -/
def fnValidIDMatchesGroupReaderWrong : ChangeSpec := { name := "fnValidIDMatchesGroupReader", fn := fun _ => fun
  | [d] => { results := [.lit (.bool false)], args := [d] }
  | _ => none }
def FnValidIDMatchesGroupReaderWrongFalsely : Prop := fnValidIDMatchesGroupReaderRow.holds Try.pinned (OpenSpec.ofChange fnValidIDMatchesGroupReaderWrong)

/-- 'zzlaws_internal_ledger_b1.FnValidIDAcceptsEveryFormattedUUID': WHATEVER THE INPUT: true; the input reads as it did. -/
def fnValidIDAcceptsEveryFormattedUUIDSpec : ChangeSpec := { name := "fnValidIDAcceptsEveryFormattedUUID", fn := fun _ => fun
  | [d1, d2] => { results := [.lit (.bool true)], args := [d1, d2] }
  | _ => none }
def fnValidIDAcceptsEveryFormattedUUIDRow : OpenClaim := { program := "qxb6603973a", sum := "4dee3cabea697cf7d4511f35232acdf55a76bf99edafc3ec907c3726e747447e", func := "example.com/tallymark/tallymark/zzlaws_internal_ledger_b1.FnValidIDAcceptsEveryFormattedUUID", spec := "fnValidIDAcceptsEveryFormattedUUID", apart := false }
def FnValidIDAcceptsEveryFormattedUUIDSaid : Prop := fnValidIDAcceptsEveryFormattedUUIDRow.holds Try.pinned (OpenSpec.ofChange fnValidIDAcceptsEveryFormattedUUIDSpec)

/-- ITS FALSE NEIGHBOUR: 'it returns false'. Refute it at one input. -/
def fnValidIDAcceptsEveryFormattedUUIDWrong : ChangeSpec := { name := "fnValidIDAcceptsEveryFormattedUUID", fn := fun _ => fun
  | [d1, d2] => { results := [.lit (.bool false)], args := [d1, d2] }
  | _ => none }
def FnValidIDAcceptsEveryFormattedUUIDWrongFalsely : Prop := fnValidIDAcceptsEveryFormattedUUIDRow.holds Try.pinned (OpenSpec.ofChange fnValidIDAcceptsEveryFormattedUUIDWrong)

/-- 'zzlaws_internal_ledger_b1.FnDecimalStringReadsBack': WHATEVER THE INPUT: true; the input reads as it did. -/
def fnDecimalStringReadsBackSpec : ChangeSpec := { name := "fnDecimalStringReadsBack", fn := fun _ => fun
  | [d1, d2, d3] => { results := [.lit (.bool true)], args := [d1, d2, d3] }
  | _ => none }
def fnDecimalStringReadsBackRow : OpenClaim := { program := "qxb6603973a", sum := "4dee3cabea697cf7d4511f35232acdf55a76bf99edafc3ec907c3726e747447e", func := "example.com/tallymark/tallymark/zzlaws_internal_ledger_b1.FnDecimalStringReadsBack", spec := "fnDecimalStringReadsBack", apart := false }
def FnDecimalStringReadsBackSaid : Prop := fnDecimalStringReadsBackRow.holds Try.pinned (OpenSpec.ofChange fnDecimalStringReadsBackSpec)

/-- ITS FALSE NEIGHBOUR: 'it returns false'. Refute it at one input. -/
def fnDecimalStringReadsBackWrong : ChangeSpec := { name := "fnDecimalStringReadsBack", fn := fun _ => fun
  | [d1, d2, d3] => { results := [.lit (.bool false)], args := [d1, d2, d3] }
  | _ => none }
def FnDecimalStringReadsBackWrongFalsely : Prop := fnDecimalStringReadsBackRow.holds Try.pinned (OpenSpec.ofChange fnDecimalStringReadsBackWrong)

end Rows
end Go.Proofs.Qxb6603973a
