/-
  No cell of these rows narrows 'for every input' (looked for: loops, veiled, ifaces, maps, wideKeys, modest, calm, conditions, laid).
  DERIVED. THE GIVEN ROWS OF THIS SEAT. 2 by the template 'for every input the law returns true; each argument reads behind the call as it read before'; 0 by the template 'total and deterministic' (their statements: Qxb6632410aTotals.lean).
  GIVEN WITH THE SEED: the statements are not yours to turn. If you find one false, say at which input.
  Laid BY PROGRAM, IN A SANDBOX (cutbox-rows.mjs): the forced cells as the released guide's own fill.sh prints them over the translation ce1245cd4c739885… (all of the seat's roots in one cut). By AI agents, Wed Nov 11 2026. No macro, syntax, notation, axiom, sorry.
-/
import Derived.Test.Qxb6632410aChecked
import GoSem.Claim
import GoSem.ClaimJoined
import GoSem.ClaimMapViews
import Derived.JoinedTies
import Derived.KernelRfl
namespace Go.Proofs.Qxb6632410a
/- THE CELL 'sum', in the pinned program and in every row, IS THE sha256 OF THE DUMP (.gsa) THAT Qxb6632410aProg.lean LOADS. Nothing in Lean hashes anything: it is a label: what it is worth is what the hold of that sum in a sandbox is worth. -/
noncomputable def Try.pinned : Pinned := { name := "qxb6632410a", sum := "ce1245cd4c739885256ea4829d964b56dc0d660576708fa6d95f12970b4a3a37", checked := Try.checked }
namespace Rows
def none {H : Type} : Left H := { results := [], args := [] }

/-- 'zzlaws_internal_university_b1.FnSizeAddsUniversities': WHATEVER THE INPUT: true; the input reads as it did. -/
def fnSizeAddsUniversitiesSpec : ChangeSpec := { name := "fnSizeAddsUniversities", fn := fun _ => fun
  | [d1, d2, d3, d4, d5, d6] => { results := [.lit (.bool true)], args := [d1, d2, d3, d4, d5, d6] }
  | _ => none }
def fnSizeAddsUniversitiesRow : OpenClaim := { program := "qxb6632410a", sum := "ce1245cd4c739885256ea4829d964b56dc0d660576708fa6d95f12970b4a3a37", func := "example.com/rolecall/rolecall/zzlaws_internal_university_b1.FnSizeAddsUniversities", spec := "fnSizeAddsUniversities", apart := false }
def FnSizeAddsUniversitiesSaid : Prop := fnSizeAddsUniversitiesRow.holds Try.pinned (OpenSpec.ofChange fnSizeAddsUniversitiesSpec)

/-- ITS FALSE NEIGHBOUR: 'it returns false'. Refute it at one input. -/
def fnSizeAddsUniversitiesWrong : ChangeSpec := { name := "fnSizeAddsUniversities", fn := fun _ => fun
  | [d1, d2, d3, d4, d5, d6] => { results := [.lit (.bool false)], args := [d1, d2, d3, d4, d5, d6] }
  | _ => none }
def FnSizeAddsUniversitiesWrongFalsely : Prop := fnSizeAddsUniversitiesRow.holds Try.pinned (OpenSpec.ofChange fnSizeAddsUniversitiesWrong)

/-- 'zzlaws_internal_university_b1.FnSizeMarginalCosts': WHATEVER THE INPUT: true; the input reads as it did. -/
def fnSizeMarginalCostsSpec : ChangeSpec := { name := "fnSizeMarginalCosts", fn := fun _ => fun
  | [d1, d2, d3] => { results := [.lit (.bool true)], args := [d1, d2, d3] }
  | _ => none }
def fnSizeMarginalCostsRow : OpenClaim := { program := "qxb6632410a", sum := "ce1245cd4c739885256ea4829d964b56dc0d660576708fa6d95f12970b4a3a37", func := "example.com/rolecall/rolecall/zzlaws_internal_university_b1.FnSizeMarginalCosts", spec := "fnSizeMarginalCosts", apart := false }
def FnSizeMarginalCostsSaid : Prop := fnSizeMarginalCostsRow.holds Try.pinned (OpenSpec.ofChange fnSizeMarginalCostsSpec)

/-- ITS FALSE NEIGHBOUR: 'it returns false'. Refute it at one input. -/
def fnSizeMarginalCostsWrong : ChangeSpec := { name := "fnSizeMarginalCosts", fn := fun _ => fun
  | [d1, d2, d3] => { results := [.lit (.bool false)], args := [d1, d2, d3] }
  | _ => none }
def FnSizeMarginalCostsWrongFalsely : Prop := fnSizeMarginalCostsRow.holds Try.pinned (OpenSpec.ofChange fnSizeMarginalCostsWrong)

end Rows
end Go.Proofs.Qxb6632410a
