/-
  No cell of these rows narrows 'for every input' (looked for: loops, veiled, ifaces, maps, wideKeys, modest, calm, conditions, laid).
  DERIVED. THE GIVEN ROWS OF THIS SEAT. 3 by the template 'for every input the law returns true; each argument reads behind the call as it read before'; 0 by the template 'total and deterministic' (their statements: Qxb6604182aTotals.lean).
  GIVEN WITH THE SEED: the statements are not yours to turn. If you find one false, say at which input.
  Laid BY PROGRAM, IN A SANDBOX (cutbox-rows.mjs): the forced cells as the released guide's own fill.sh prints them over the translation 5214d30f1871621e… (all of the seat's roots in one cut). By AI agents, Wed Nov 11 2026. No macro, syntax, notation, axiom, sorry.
-/
import Derived.Test.Qxb6604182aChecked
import GoSem.Claim
import GoSem.ClaimJoined
import GoSem.ClaimMapViews
import Derived.JoinedTies
import Derived.KernelRfl
namespace Go.Proofs.Qxb6604182a
/- THE CELL 'sum', in the pinned program and in every row, IS THE sha256 OF THE DUMP (.gsa) THAT Qxb6604182aProg.lean LOADS. Nothing in Lean hashes anything: it is a label: what it is worth is what the hold of that sum in a sandbox is worth. -/
noncomputable def Try.pinned : Pinned := { name := "qxb6604182a", sum := "5214d30f1871621ecaa0fe0ff54a670d5c118307fc738771fbcc59f16a44e402", checked := Try.checked }
namespace Rows
def none {H : Type} : Left H := { results := [], args := [] }

/-- 'zzlaws_internal_seconds_b1.FnParseDecimalMatchesStateMachine': WHATEVER THE INPUT: true; the input reads as it did. -/
def fnParseDecimalMatchesStateMachineSpec : ChangeSpec := { name := "fnParseDecimalMatchesStateMachine", fn := fun _ => fun
  | [d] => { results := [.lit (.bool true)], args := [d] }
  | _ => none }
def fnParseDecimalMatchesStateMachineRow : OpenClaim := { program := "qxb6604182a", sum := "5214d30f1871621ecaa0fe0ff54a670d5c118307fc738771fbcc59f16a44e402", func := "example.com/knell/knell/zzlaws_internal_seconds_b1.FnParseDecimalMatchesStateMachine", spec := "fnParseDecimalMatchesStateMachine", apart := false }
def FnParseDecimalMatchesStateMachineSaid : Prop := fnParseDecimalMatchesStateMachineRow.holds Try.pinned (OpenSpec.ofChange fnParseDecimalMatchesStateMachineSpec)

/-- ITS FALSE NEIGHBOUR: 'it returns false'. Refute it at one input. -/
def fnParseDecimalMatchesStateMachineWrong : ChangeSpec := { name := "fnParseDecimalMatchesStateMachine", fn := fun _ => fun
  | [d] => { results := [.lit (.bool false)], args := [d] }
  | _ => none }
def FnParseDecimalMatchesStateMachineWrongFalsely : Prop := fnParseDecimalMatchesStateMachineRow.holds Try.pinned (OpenSpec.ofChange fnParseDecimalMatchesStateMachineWrong)

/-- 'zzlaws_internal_seconds_b1.FnDescribeCallsEveryAcceptedNumberANumber': WHATEVER THE INPUT: true; the input reads as it did. -/
def fnDescribeCallsEveryAcceptedNumberANumberSpec : ChangeSpec := { name := "fnDescribeCallsEveryAcceptedNumberANumber", fn := fun _ => fun
  | [d] => { results := [.lit (.bool true)], args := [d] }
  | _ => none }
def fnDescribeCallsEveryAcceptedNumberANumberRow : OpenClaim := { program := "qxb6604182a", sum := "5214d30f1871621ecaa0fe0ff54a670d5c118307fc738771fbcc59f16a44e402", func := "example.com/knell/knell/zzlaws_internal_seconds_b1.FnDescribeCallsEveryAcceptedNumberANumber", spec := "fnDescribeCallsEveryAcceptedNumberANumber", apart := false }
def FnDescribeCallsEveryAcceptedNumberANumberSaid : Prop := fnDescribeCallsEveryAcceptedNumberANumberRow.holds Try.pinned (OpenSpec.ofChange fnDescribeCallsEveryAcceptedNumberANumberSpec)

/-- ITS FALSE NEIGHBOUR: 'it returns false'. Refute it at one input. -/
def fnDescribeCallsEveryAcceptedNumberANumberWrong : ChangeSpec := { name := "fnDescribeCallsEveryAcceptedNumberANumber", fn := fun _ => fun
  | [d] => { results := [.lit (.bool false)], args := [d] }
  | _ => none }
def FnDescribeCallsEveryAcceptedNumberANumberWrongFalsely : Prop := fnDescribeCallsEveryAcceptedNumberANumberRow.holds Try.pinned (OpenSpec.ofChange fnDescribeCallsEveryAcceptedNumberANumberWrong)

/-- 'zzlaws_internal_seconds_b1.FnLeadingDigitsSplitsAtFirstNonDigit': WHATEVER THE INPUT: true; the input reads as it did. -/
def fnLeadingDigitsSplitsAtFirstNonDigitSpec : ChangeSpec := { name := "fnLeadingDigitsSplitsAtFirstNonDigit", fn := fun _ => fun
  | [d] => { results := [.lit (.bool true)], args := [d] }
  | _ => none }
def fnLeadingDigitsSplitsAtFirstNonDigitRow : OpenClaim := { program := "qxb6604182a", sum := "5214d30f1871621ecaa0fe0ff54a670d5c118307fc738771fbcc59f16a44e402", func := "example.com/knell/knell/zzlaws_internal_seconds_b1.FnLeadingDigitsSplitsAtFirstNonDigit", spec := "fnLeadingDigitsSplitsAtFirstNonDigit", apart := false }
def FnLeadingDigitsSplitsAtFirstNonDigitSaid : Prop := fnLeadingDigitsSplitsAtFirstNonDigitRow.holds Try.pinned (OpenSpec.ofChange fnLeadingDigitsSplitsAtFirstNonDigitSpec)

/-- ITS FALSE NEIGHBOUR: 'it returns false'. Refute it at one input. -/
def fnLeadingDigitsSplitsAtFirstNonDigitWrong : ChangeSpec := { name := "fnLeadingDigitsSplitsAtFirstNonDigit", fn := fun _ => fun
  | [d] => { results := [.lit (.bool false)], args := [d] }
  | _ => none }
def FnLeadingDigitsSplitsAtFirstNonDigitWrongFalsely : Prop := fnLeadingDigitsSplitsAtFirstNonDigitRow.holds Try.pinned (OpenSpec.ofChange fnLeadingDigitsSplitsAtFirstNonDigitWrong)

end Rows
end Go.Proofs.Qxb6604182a
