/-
  No cell of these rows narrows 'for every input' (looked for: loops, veiled, ifaces, maps, wideKeys, modest, calm, conditions, laid).
  DERIVED. THE GIVEN ROWS OF THIS SEAT. 2 by the template 'for every input the law returns true; each argument reads behind the call as it read before'; 0 by the template 'total and deterministic' (their statements: Qxb6604779aTotals.lean).
  GIVEN WITH THE SEED: the statements are not yours to turn. If you find one false, say at which input.
  Laid BY PROGRAM, IN A SANDBOX (cutbox-rows.mjs): the forced cells as the released guide's own fill.sh prints them over the translation 78dba66466894321… (all of the seat's roots in one cut). By AI agents, Wed Nov 11 2026. No macro, syntax, notation, axiom, sorry.
-/
import Derived.Test.Qxb6604779aChecked
import GoSem.Claim
import GoSem.ClaimJoined
import GoSem.ClaimMapViews
import Derived.JoinedTies
import Derived.KernelRfl
namespace Go.Proofs.Qxb6604779a
/- THE CELL 'sum', in the pinned program and in every row, IS THE sha256 OF THE DUMP (.gsa) THAT Qxb6604779aProg.lean LOADS. Nothing in Lean hashes anything: it is a label: what it is worth is what the hold of that sum in a sandbox is worth. -/
noncomputable def Try.pinned : Pinned := { name := "qxb6604779a", sum := "78dba66466894321e423b0521cc40a9a1c524250aeb3ed0c12c11d0a3a3bde6b", checked := Try.checked }
namespace Rows
def none {H : Type} : Left H := { results := [], args := [] }

/-- 'zzlaws_internal_quorum_b1.FnReceiveTwiceIsOnce': WHATEVER THE INPUT: true; the input reads as it did. -/
def fnReceiveTwiceIsOnceSpec : ChangeSpec := { name := "fnReceiveTwiceIsOnce", fn := fun _ => fun
  | [d1, d2, d3, d4, d5, d6, d7, d8] => { results := [.lit (.bool true)], args := [d1, d2, d3, d4, d5, d6, d7, d8] }
  | _ => none }
def fnReceiveTwiceIsOnceRow : OpenClaim := { program := "qxb6604779a", sum := "78dba66466894321e423b0521cc40a9a1c524250aeb3ed0c12c11d0a3a3bde6b", func := "example.com/quorumtree/quorumtree/zzlaws_internal_quorum_b1.FnReceiveTwiceIsOnce", spec := "fnReceiveTwiceIsOnce", apart := false }
def FnReceiveTwiceIsOnceSaid : Prop := fnReceiveTwiceIsOnceRow.holds Try.pinned (OpenSpec.ofChange fnReceiveTwiceIsOnceSpec)

/-- ITS FALSE NEIGHBOUR: 'it returns false'. Refute it at one input. -/
def fnReceiveTwiceIsOnceWrong : ChangeSpec := { name := "fnReceiveTwiceIsOnce", fn := fun _ => fun
  | [d1, d2, d3, d4, d5, d6, d7, d8] => { results := [.lit (.bool false)], args := [d1, d2, d3, d4, d5, d6, d7, d8] }
  | _ => none }
def FnReceiveTwiceIsOnceWrongFalsely : Prop := fnReceiveTwiceIsOnceRow.holds Try.pinned (OpenSpec.ofChange fnReceiveTwiceIsOnceWrong)

/-- 'zzlaws_internal_quorum_b1.FnReceiveScriptOrders': WHATEVER THE INPUT: true; the input reads as it did. -/
def fnReceiveScriptOrdersSpec : ChangeSpec := { name := "fnReceiveScriptOrders", fn := fun _ => fun
  | [d1, d2, d3, d4, d5, d6, d7, d8] => { results := [.lit (.bool true)], args := [d1, d2, d3, d4, d5, d6, d7, d8] }
  | _ => none }
def fnReceiveScriptOrdersRow : OpenClaim := { program := "qxb6604779a", sum := "78dba66466894321e423b0521cc40a9a1c524250aeb3ed0c12c11d0a3a3bde6b", func := "example.com/quorumtree/quorumtree/zzlaws_internal_quorum_b1.FnReceiveScriptOrders", spec := "fnReceiveScriptOrders", apart := false }
def FnReceiveScriptOrdersSaid : Prop := fnReceiveScriptOrdersRow.holds Try.pinned (OpenSpec.ofChange fnReceiveScriptOrdersSpec)

/-- ITS FALSE NEIGHBOUR: 'it returns false'. Refute it at one input. -/
def fnReceiveScriptOrdersWrong : ChangeSpec := { name := "fnReceiveScriptOrders", fn := fun _ => fun
  | [d1, d2, d3, d4, d5, d6, d7, d8] => { results := [.lit (.bool false)], args := [d1, d2, d3, d4, d5, d6, d7, d8] }
  | _ => none }
def FnReceiveScriptOrdersWrongFalsely : Prop := fnReceiveScriptOrdersRow.holds Try.pinned (OpenSpec.ofChange fnReceiveScriptOrdersWrong)

end Rows
end Go.Proofs.Qxb6604779a
