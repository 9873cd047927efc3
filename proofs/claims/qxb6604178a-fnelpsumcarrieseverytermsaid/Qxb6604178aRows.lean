/-
  No cell of these rows narrows 'for every input' (looked for: loops, veiled, ifaces, maps, wideKeys, modest, calm, conditions, laid).
  DERIVED. THE GIVEN ROWS OF THIS SEAT. 4 by the template 'for every input the law returns true; each argument reads behind the call as it read before'; 0 by the template 'total and deterministic' (their statements: Qxb6604178aTotals.lean).
  GIVEN WITH THE SEED: the statements are not yours to turn. If you find one false, say at which input.
  Laid BY PROGRAM, IN A SANDBOX (cutbox-rows.mjs): the forced cells as the released guide's own fill.sh prints them over the translation 21ac090e5e756cc5… (all of the seat's roots in one cut). By AI agents, Wed Nov 11 2026. No macro, syntax, notation, axiom, sorry.
-/
import Derived.Test.Qxb6604178aChecked
import GoSem.Claim
import GoSem.ClaimJoined
import GoSem.ClaimMapViews
import Derived.JoinedTies
import Derived.KernelRfl
namespace Go.Proofs.Qxb6604178a
/- THE CELL 'sum', in the pinned program and in every row, IS THE sha256 OF THE DUMP (.gsa) THAT Qxb6604178aProg.lean LOADS. Nothing in Lean hashes anything: it is a label: what it is worth is what the hold of that sum in a sandbox is worth. -/
noncomputable def Try.pinned : Pinned := { name := "qxb6604178a", sum := "21ac090e5e756cc5750cf80f08b13d5324ae8dc2659ffb4284949ce278ccee78", checked := Try.checked }
namespace Rows
def none {H : Type} : Left H := { results := [], args := [] }

/-- 'zzlaws_root_b1.FnElpSumCarriesEveryTerm': WHATEVER THE INPUT: true; the input reads as it did. -/
def fnElpSumCarriesEveryTermSpec : ChangeSpec := { name := "fnElpSumCarriesEveryTerm", fn := fun _ => fun
  | [d1, d2, d3, d4] => { results := [.lit (.bool true)], args := [d1, d2, d3, d4] }
  | _ => none }
def fnElpSumCarriesEveryTermRow : OpenClaim := { program := "qxb6604178a", sum := "21ac090e5e756cc5750cf80f08b13d5324ae8dc2659ffb4284949ce278ccee78", func := "example.com/skyreckon/skyreckon/zzlaws_root_b1.FnElpSumCarriesEveryTerm", spec := "fnElpSumCarriesEveryTerm", apart := false }
def FnElpSumCarriesEveryTermSaid : Prop := fnElpSumCarriesEveryTermRow.holds Try.pinned (OpenSpec.ofChange fnElpSumCarriesEveryTermSpec)

/-- ITS FALSE NEIGHBOUR: 'it returns false'. Refute it at one input. -/
def fnElpSumCarriesEveryTermWrong : ChangeSpec := { name := "fnElpSumCarriesEveryTerm", fn := fun _ => fun
  | [d1, d2, d3, d4] => { results := [.lit (.bool false)], args := [d1, d2, d3, d4] }
  | _ => none }
def FnElpSumCarriesEveryTermWrongFalsely : Prop := fnElpSumCarriesEveryTermRow.holds Try.pinned (OpenSpec.ofChange fnElpSumCarriesEveryTermWrong)

/-- 'zzlaws_root_b1.FnElpSumOddInArgumentsAndPhases': WHATEVER THE INPUT: true; the input reads as it did. -/
def fnElpSumOddInArgumentsAndPhasesSpec : ChangeSpec := { name := "fnElpSumOddInArgumentsAndPhases", fn := fun _ => fun
  | [d1, d2, d3, d4] => { results := [.lit (.bool true)], args := [d1, d2, d3, d4] }
  | _ => none }
def fnElpSumOddInArgumentsAndPhasesRow : OpenClaim := { program := "qxb6604178a", sum := "21ac090e5e756cc5750cf80f08b13d5324ae8dc2659ffb4284949ce278ccee78", func := "example.com/skyreckon/skyreckon/zzlaws_root_b1.FnElpSumOddInArgumentsAndPhases", spec := "fnElpSumOddInArgumentsAndPhases", apart := false }
def FnElpSumOddInArgumentsAndPhasesSaid : Prop := fnElpSumOddInArgumentsAndPhasesRow.holds Try.pinned (OpenSpec.ofChange fnElpSumOddInArgumentsAndPhasesSpec)

/-- ITS FALSE NEIGHBOUR: 'it returns false'. Refute it at one input. -/
def fnElpSumOddInArgumentsAndPhasesWrong : ChangeSpec := { name := "fnElpSumOddInArgumentsAndPhases", fn := fun _ => fun
  | [d1, d2, d3, d4] => { results := [.lit (.bool false)], args := [d1, d2, d3, d4] }
  | _ => none }
def FnElpSumOddInArgumentsAndPhasesWrongFalsely : Prop := fnElpSumOddInArgumentsAndPhasesRow.holds Try.pinned (OpenSpec.ofChange fnElpSumOddInArgumentsAndPhasesWrong)

/-- 'zzlaws_root_b1.FnElpSumMainSeesOnlyFirstFourArguments': WHATEVER THE INPUT: true; the input reads as it did. -/
def fnElpSumMainSeesOnlyFirstFourArgumentsSpec : ChangeSpec := { name := "fnElpSumMainSeesOnlyFirstFourArguments", fn := fun _ => fun
  | [d1, d2, d3, d4, d5] => { results := [.lit (.bool true)], args := [d1, d2, d3, d4, d5] }
  | _ => none }
def fnElpSumMainSeesOnlyFirstFourArgumentsRow : OpenClaim := { program := "qxb6604178a", sum := "21ac090e5e756cc5750cf80f08b13d5324ae8dc2659ffb4284949ce278ccee78", func := "example.com/skyreckon/skyreckon/zzlaws_root_b1.FnElpSumMainSeesOnlyFirstFourArguments", spec := "fnElpSumMainSeesOnlyFirstFourArguments", apart := false }
def FnElpSumMainSeesOnlyFirstFourArgumentsSaid : Prop := fnElpSumMainSeesOnlyFirstFourArgumentsRow.holds Try.pinned (OpenSpec.ofChange fnElpSumMainSeesOnlyFirstFourArgumentsSpec)

/-- ITS FALSE NEIGHBOUR: 'it returns false'. Refute it at one input. -/
def fnElpSumMainSeesOnlyFirstFourArgumentsWrong : ChangeSpec := { name := "fnElpSumMainSeesOnlyFirstFourArguments", fn := fun _ => fun
  | [d1, d2, d3, d4, d5] => { results := [.lit (.bool false)], args := [d1, d2, d3, d4, d5] }
  | _ => none }
def FnElpSumMainSeesOnlyFirstFourArgumentsWrongFalsely : Prop := fnElpSumMainSeesOnlyFirstFourArgumentsRow.holds Try.pinned (OpenSpec.ofChange fnElpSumMainSeesOnlyFirstFourArgumentsWrong)

/-- 'zzlaws_root_b1.FnDeclinationBoundsMatchDenseSampling': WHATEVER THE INPUT: true; the input reads as it did. -/
def fnDeclinationBoundsMatchDenseSamplingSpec : ChangeSpec := { name := "fnDeclinationBoundsMatchDenseSampling", fn := fun _ => fun
  | [d1, d2, d3, d4, d5, d6, d7, d8] => { results := [.lit (.bool true)], args := [d1, d2, d3, d4, d5, d6, d7, d8] }
  | _ => none }
def fnDeclinationBoundsMatchDenseSamplingRow : OpenClaim := { program := "qxb6604178a", sum := "21ac090e5e756cc5750cf80f08b13d5324ae8dc2659ffb4284949ce278ccee78", func := "example.com/skyreckon/skyreckon/zzlaws_root_b1.FnDeclinationBoundsMatchDenseSampling", spec := "fnDeclinationBoundsMatchDenseSampling", apart := false }
def FnDeclinationBoundsMatchDenseSamplingSaid : Prop := fnDeclinationBoundsMatchDenseSamplingRow.holds Try.pinned (OpenSpec.ofChange fnDeclinationBoundsMatchDenseSamplingSpec)

/-- ITS FALSE NEIGHBOUR: 'it returns false'. Refute it at one input. -/
def fnDeclinationBoundsMatchDenseSamplingWrong : ChangeSpec := { name := "fnDeclinationBoundsMatchDenseSampling", fn := fun _ => fun
  | [d1, d2, d3, d4, d5, d6, d7, d8] => { results := [.lit (.bool false)], args := [d1, d2, d3, d4, d5, d6, d7, d8] }
  | _ => none }
def FnDeclinationBoundsMatchDenseSamplingWrongFalsely : Prop := fnDeclinationBoundsMatchDenseSamplingRow.holds Try.pinned (OpenSpec.ofChange fnDeclinationBoundsMatchDenseSamplingWrong)

end Rows
end Go.Proofs.Qxb6604178a
