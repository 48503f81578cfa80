/-
  No cell of these rows narrows 'for every input' (looked for: loops, veiled, ifaces, maps, wideKeys, modest, calm, conditions, laid).
  DERIVED. THE GIVEN ROWS OF THIS SEAT. 2 by the template 'for every input the law returns true; each argument reads behind the call as it read before'; 0 by the template 'total and deterministic' (their statements: Qxb6632587aTotals.lean).
  GIVEN WITH THE SEED: the statements are not yours to turn. If you find one false, say at which input.
  Laid BY PROGRAM, IN A SANDBOX (cutbox-rows.mjs): the forced cells as the released guide's own fill.sh prints them over the translation 3485a378c0e99901… (all of the seat's roots in one cut). By AI agents, Wed Nov 11 2026. No macro, syntax, notation, axiom, sorry.
-/
import Derived.Test.Qxb6632587aChecked
import GoSem.Claim
import GoSem.ClaimJoined
import GoSem.ClaimMapViews
import Derived.JoinedTies
import Derived.KernelRfl
namespace Go.Proofs.Qxb6632587a
/- THE CELL 'sum', in the pinned program and in every row, IS THE sha256 OF THE DUMP (.gsa) THAT Qxb6632587aProg.lean LOADS. Nothing in Lean hashes anything: it is a label: what it is worth is what the hold of that sum in a sandbox is worth. -/
noncomputable def Try.pinned : Pinned := { name := "qxb6632587a", sum := "3485a378c0e99901048b48656e8ffee86d1fd171b210066e484ac816c578028f", checked := Try.checked }
namespace Rows
def none {H : Type} : Left H := { results := [], args := [] }

/-- 'zzlaws_internal_decision_b1.FnCooldownLengthTwoLevels': WHATEVER THE INPUT: true; the input reads as it did. -/
def fnCooldownLengthTwoLevelsSpec : ChangeSpec := { name := "fnCooldownLengthTwoLevels", fn := fun _ => fun
  | [d1, d2, d3] => { results := [.lit (.bool true)], args := [d1, d2, d3] }
  | _ => none }
def fnCooldownLengthTwoLevelsRow : OpenClaim := { program := "qxb6632587a", sum := "3485a378c0e99901048b48656e8ffee86d1fd171b210066e484ac816c578028f", func := "example.com/amber-light/amber-light/zzlaws_internal_decision_b1.FnCooldownLengthTwoLevels", spec := "fnCooldownLengthTwoLevels", apart := false }
def FnCooldownLengthTwoLevelsSaid : Prop := fnCooldownLengthTwoLevelsRow.holds Try.pinned (OpenSpec.ofChange fnCooldownLengthTwoLevelsSpec)

/-- ITS FALSE NEIGHBOUR: 'it returns false'. Refute it at one input. -/
def fnCooldownLengthTwoLevelsWrong : ChangeSpec := { name := "fnCooldownLengthTwoLevels", fn := fun _ => fun
  | [d1, d2, d3] => { results := [.lit (.bool false)], args := [d1, d2, d3] }
  | _ => none }
def FnCooldownLengthTwoLevelsWrongFalsely : Prop := fnCooldownLengthTwoLevelsRow.holds Try.pinned (OpenSpec.ofChange fnCooldownLengthTwoLevelsWrong)

/-- 'zzlaws_internal_decision_b1.FnCooldownLengthJoinedLadder': WHATEVER THE INPUT: true; the input reads as it did. -/
def fnCooldownLengthJoinedLadderSpec : ChangeSpec := { name := "fnCooldownLengthJoinedLadder", fn := fun _ => fun
  | [d1, d2, d3] => { results := [.lit (.bool true)], args := [d1, d2, d3] }
  | _ => none }
def fnCooldownLengthJoinedLadderRow : OpenClaim := { program := "qxb6632587a", sum := "3485a378c0e99901048b48656e8ffee86d1fd171b210066e484ac816c578028f", func := "example.com/amber-light/amber-light/zzlaws_internal_decision_b1.FnCooldownLengthJoinedLadder", spec := "fnCooldownLengthJoinedLadder", apart := false }
def FnCooldownLengthJoinedLadderSaid : Prop := fnCooldownLengthJoinedLadderRow.holds Try.pinned (OpenSpec.ofChange fnCooldownLengthJoinedLadderSpec)

/-- ITS FALSE NEIGHBOUR: 'it returns false'. Refute it at one input. -/
def fnCooldownLengthJoinedLadderWrong : ChangeSpec := { name := "fnCooldownLengthJoinedLadder", fn := fun _ => fun
  | [d1, d2, d3] => { results := [.lit (.bool false)], args := [d1, d2, d3] }
  | _ => none }
def FnCooldownLengthJoinedLadderWrongFalsely : Prop := fnCooldownLengthJoinedLadderRow.holds Try.pinned (OpenSpec.ofChange fnCooldownLengthJoinedLadderWrong)

end Rows
end Go.Proofs.Qxb6632587a
