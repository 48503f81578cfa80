/-
  No cell of these rows narrows 'for every input' (looked for: loops, veiled, ifaces, maps, wideKeys, modest, calm, conditions, laid).
  DERIVED. THE GIVEN ROWS OF THIS SEAT. 2 by the template 'for every input the law returns true; each argument reads behind the call as it read before'; 0 by the template 'total and deterministic' (their statements: Qxb6632486aTotals.lean).
  GIVEN WITH THE SEED: the statements are not yours to turn. If you find one false, say at which input.
  Laid BY PROGRAM, IN A SANDBOX (cutbox-rows.mjs): the forced cells as the released guide's own fill.sh prints them over the translation 65ccffca73033759… (all of the seat's roots in one cut). By AI agents, Wed Nov 11 2026. No macro, syntax, notation, axiom, sorry.
-/
import Derived.Test.Qxb6632486aChecked
import GoSem.Claim
import GoSem.ClaimJoined
import GoSem.ClaimMapViews
import Derived.JoinedTies
import Derived.KernelRfl
namespace Go.Proofs.Qxb6632486a
/- THE CELL 'sum', in the pinned program and in every row, IS THE sha256 OF THE DUMP (.gsa) THAT Qxb6632486aProg.lean LOADS. Nothing in Lean hashes anything: it is a label: what it is worth is what the hold of that sum in a sandbox is worth. -/
noncomputable def Try.pinned : Pinned := { name := "qxb6632486a", sum := "65ccffca73033759ff71d1c2c062d43a0dc4b93efd36eb2715363505bea0f72d", checked := Try.checked }
namespace Rows
def none {H : Type} : Left H := { results := [], args := [] }

/-- 'zzlaws_internal_httpfield_b1.FnIsPlainPathMatchesSegmentGrammar': WHATEVER THE INPUT: true; the input reads as it did. -/
def fnIsPlainPathMatchesSegmentGrammarSpec : ChangeSpec := { name := "fnIsPlainPathMatchesSegmentGrammar", fn := fun _ => fun
  | [d] => { results := [.lit (.bool true)], args := [d] }
  | _ => none }
def fnIsPlainPathMatchesSegmentGrammarRow : OpenClaim := { program := "qxb6632486a", sum := "65ccffca73033759ff71d1c2c062d43a0dc4b93efd36eb2715363505bea0f72d", func := "example.com/precedent/precedent/zzlaws_internal_httpfield_b1.FnIsPlainPathMatchesSegmentGrammar", spec := "fnIsPlainPathMatchesSegmentGrammar", apart := false }
def FnIsPlainPathMatchesSegmentGrammarSaid : Prop := fnIsPlainPathMatchesSegmentGrammarRow.holds Try.pinned (OpenSpec.ofChange fnIsPlainPathMatchesSegmentGrammarSpec)

/-- ITS FALSE NEIGHBOUR: 'it returns false'. Refute it at one input. -/
def fnIsPlainPathMatchesSegmentGrammarWrong : ChangeSpec := { name := "fnIsPlainPathMatchesSegmentGrammar", fn := fun _ => fun
  | [d] => { results := [.lit (.bool false)], args := [d] }
  | _ => none }
def FnIsPlainPathMatchesSegmentGrammarWrongFalsely : Prop := fnIsPlainPathMatchesSegmentGrammarRow.holds Try.pinned (OpenSpec.ofChange fnIsPlainPathMatchesSegmentGrammarWrong)

/-- 'zzlaws_internal_httpfield_b1.FnIsPlainPathSplitsAtAnyCut': WHATEVER THE INPUT: true; the input reads as it did. -/
def fnIsPlainPathSplitsAtAnyCutSpec : ChangeSpec := { name := "fnIsPlainPathSplitsAtAnyCut", fn := fun _ => fun
  | [d1, d2] => { results := [.lit (.bool true)], args := [d1, d2] }
  | _ => none }
def fnIsPlainPathSplitsAtAnyCutRow : OpenClaim := { program := "qxb6632486a", sum := "65ccffca73033759ff71d1c2c062d43a0dc4b93efd36eb2715363505bea0f72d", func := "example.com/precedent/precedent/zzlaws_internal_httpfield_b1.FnIsPlainPathSplitsAtAnyCut", spec := "fnIsPlainPathSplitsAtAnyCut", apart := false }
def FnIsPlainPathSplitsAtAnyCutSaid : Prop := fnIsPlainPathSplitsAtAnyCutRow.holds Try.pinned (OpenSpec.ofChange fnIsPlainPathSplitsAtAnyCutSpec)

/-- ITS FALSE NEIGHBOUR: 'it returns false'. Refute it at one input. -/
def fnIsPlainPathSplitsAtAnyCutWrong : ChangeSpec := { name := "fnIsPlainPathSplitsAtAnyCut", fn := fun _ => fun
  | [d1, d2] => { results := [.lit (.bool false)], args := [d1, d2] }
  | _ => none }
def FnIsPlainPathSplitsAtAnyCutWrongFalsely : Prop := fnIsPlainPathSplitsAtAnyCutRow.holds Try.pinned (OpenSpec.ofChange fnIsPlainPathSplitsAtAnyCutWrong)

end Rows
end Go.Proofs.Qxb6632486a
