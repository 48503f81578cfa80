/-
  No cell of these rows narrows 'for every input' (looked for: loops, veiled, ifaces, maps, wideKeys, modest, calm, conditions, laid).
  DERIVED. THE GIVEN ROWS OF THIS SEAT. 2 by the template 'for every input the law returns true; each argument reads behind the call as it read before'; 0 by the template 'total and deterministic' (their statements: Qxb6632347aTotals.lean).
  GIVEN WITH THE SEED: the statements are not yours to turn. If you find one false, say at which input.
  Laid BY PROGRAM, IN A SANDBOX (cutbox-rows.mjs): the forced cells as the released guide's own fill.sh prints them over the translation 90e6c041fbec5c16… (all of the seat's roots in one cut). By AI agents, Wed Nov 11 2026. No macro, syntax, notation, axiom, sorry.
-/
import Derived.Test.Qxb6632347aChecked
import GoSem.Claim
import GoSem.ClaimJoined
import GoSem.ClaimMapViews
import Derived.JoinedTies
import Derived.KernelRfl
namespace Go.Proofs.Qxb6632347a
/- THE CELL 'sum', in the pinned program and in every row, IS THE sha256 OF THE DUMP (.gsa) THAT Qxb6632347aProg.lean LOADS. Nothing in Lean hashes anything: it is a label: what it is worth is what the hold of that sum in a sandbox is worth. -/
noncomputable def Try.pinned : Pinned := { name := "qxb6632347a", sum := "90e6c041fbec5c163866df7c3008162999e534135c265e01743fd6600226f3c2", checked := Try.checked }
namespace Rows
def none {H : Type} : Left H := { results := [], args := [] }

/-- 'zzlaws_internal_sigv4_b1.FnURIEncodeCanonicalDecodeGivesInput': WHATEVER THE INPUT: true; the input reads as it did. -/
def fnURIEncodeCanonicalDecodeGivesInputSpec : ChangeSpec := { name := "fnURIEncodeCanonicalDecodeGivesInput", fn := fun _ => fun
  | [d1, d2] => { results := [.lit (.bool true)], args := [d1, d2] }
  | _ => none }
def fnURIEncodeCanonicalDecodeGivesInputRow : OpenClaim := { program := "qxb6632347a", sum := "90e6c041fbec5c163866df7c3008162999e534135c265e01743fd6600226f3c2", func := "example.com/sealwright/sealwright/zzlaws_internal_sigv4_b1.FnURIEncodeCanonicalDecodeGivesInput", spec := "fnURIEncodeCanonicalDecodeGivesInput", inPlace := ["internal/abi.NoEscape", "internal/bytealg.MakeNoZero"], apart := false }
def FnURIEncodeCanonicalDecodeGivesInputSaid : Prop := fnURIEncodeCanonicalDecodeGivesInputRow.holds Try.pinned (OpenSpec.ofChange fnURIEncodeCanonicalDecodeGivesInputSpec)

/-- ITS FALSE NEIGHBOUR: 'it returns false'. Refute it at one input. -/
def fnURIEncodeCanonicalDecodeGivesInputWrong : ChangeSpec := { name := "fnURIEncodeCanonicalDecodeGivesInput", fn := fun _ => fun
  | [d1, d2] => { results := [.lit (.bool false)], args := [d1, d2] }
  | _ => none }
def FnURIEncodeCanonicalDecodeGivesInputWrongFalsely : Prop := fnURIEncodeCanonicalDecodeGivesInputRow.holds Try.pinned (OpenSpec.ofChange fnURIEncodeCanonicalDecodeGivesInputWrong)

/-- 'zzlaws_internal_sigv4_b1.FnURIEncodeDoubleEncodingOnlyEscapesPercent': WHATEVER THE INPUT: true; the input reads as it did. -/
def fnURIEncodeDoubleEncodingOnlyEscapesPercentSpec : ChangeSpec := { name := "fnURIEncodeDoubleEncodingOnlyEscapesPercent", fn := fun _ => fun
  | [d1, d2] => { results := [.lit (.bool true)], args := [d1, d2] }
  | _ => none }
def fnURIEncodeDoubleEncodingOnlyEscapesPercentRow : OpenClaim := { program := "qxb6632347a", sum := "90e6c041fbec5c163866df7c3008162999e534135c265e01743fd6600226f3c2", func := "example.com/sealwright/sealwright/zzlaws_internal_sigv4_b1.FnURIEncodeDoubleEncodingOnlyEscapesPercent", spec := "fnURIEncodeDoubleEncodingOnlyEscapesPercent", inPlace := ["internal/abi.NoEscape", "internal/bytealg.MakeNoZero"], apart := false }
def FnURIEncodeDoubleEncodingOnlyEscapesPercentSaid : Prop := fnURIEncodeDoubleEncodingOnlyEscapesPercentRow.holds Try.pinned (OpenSpec.ofChange fnURIEncodeDoubleEncodingOnlyEscapesPercentSpec)

/-- ITS FALSE NEIGHBOUR: 'it returns false'. Refute it at one input. -/
def fnURIEncodeDoubleEncodingOnlyEscapesPercentWrong : ChangeSpec := { name := "fnURIEncodeDoubleEncodingOnlyEscapesPercent", fn := fun _ => fun
  | [d1, d2] => { results := [.lit (.bool false)], args := [d1, d2] }
  | _ => none }
def FnURIEncodeDoubleEncodingOnlyEscapesPercentWrongFalsely : Prop := fnURIEncodeDoubleEncodingOnlyEscapesPercentRow.holds Try.pinned (OpenSpec.ofChange fnURIEncodeDoubleEncodingOnlyEscapesPercentWrong)

end Rows
end Go.Proofs.Qxb6632347a
