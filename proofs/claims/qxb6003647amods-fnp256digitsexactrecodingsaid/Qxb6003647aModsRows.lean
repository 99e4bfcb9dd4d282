/-
  No cell of these rows narrows 'for every input' (looked for: loops, veiled, ifaces, maps, wideKeys, modest, calm, conditions, laid).
  DERIVED. THE GIVEN ROWS OF THIS SEAT. 3 by the template 'for every input the law returns true; each argument reads behind the call as it read before'; 0 by the template 'total and deterministic' (their statements: Qxb6003647aModsTotals.lean).
  GIVEN WITH THE SEED: the statements are not yours to turn. If you find one false, say at which input.
  Laid BY PROGRAM, IN A SANDBOX (cutbox-rows.mjs): the forced cells as the released guide's own fill.sh prints them over the translation 87086eec3952c144… (all of the seat's roots in one cut). By AI agents, Wed Nov 11 2026. No macro, syntax, notation, axiom, sorry.
-/
import Derived.Test.Qxb6003647aModsChecked
import GoSem.Claim
import GoSem.ClaimJoined
import GoSem.ClaimMapViews
import Derived.JoinedTies
import Derived.KernelRfl
namespace Go.Proofs.Qxb6003647aMods
/- THE CELL 'sum', in the pinned program and in every row, IS THE sha256 OF THE DUMP (.gsa) THAT Qxb6003647aModsProg.lean LOADS. Nothing in Lean hashes anything: it is a label: what it is worth is what the hold of that sum in a sandbox is worth. -/
noncomputable def Trym.pinned : Pinned := { name := "qxb6003647amods", sum := "87086eec3952c14408c12007e3ad277c462b46085b50190e91d95044c274d267", checked := Trym.checked }
namespace Rows
def none {H : Type} : Left H := { results := [], args := [] }

/-- 'zzlaws_internal_dpop_b1.FnP256DigitsExactRecoding': WHATEVER THE INPUT: true; the input reads as it did. -/
def fnP256DigitsExactRecodingSpec : ChangeSpec := { name := "fnP256DigitsExactRecoding", fn := fun _ => fun
  | [d] => { results := [.lit (.bool true)], args := [d] }
  | _ => none }
def fnP256DigitsExactRecodingRow : OpenClaim := { program := "qxb6003647amods", sum := "87086eec3952c14408c12007e3ad277c462b46085b50190e91d95044c274d267", func := "example.com/holdfast/holdfast/zzlaws_internal_dpop_b1.FnP256DigitsExactRecoding", spec := "fnP256DigitsExactRecoding", make := .lifted ["publicsums"], apart := false }
def FnP256DigitsExactRecodingSaid : Prop := fnP256DigitsExactRecodingRow.holds Trym.pinned (OpenSpec.ofChange fnP256DigitsExactRecodingSpec)

/-- ITS FALSE NEIGHBOUR: 'it returns false'. Refute it at one input. -/
def fnP256DigitsExactRecodingWrong : ChangeSpec := { name := "fnP256DigitsExactRecoding", fn := fun _ => fun
  | [d] => { results := [.lit (.bool false)], args := [d] }
  | _ => none }
def FnP256DigitsExactRecodingWrongFalsely : Prop := fnP256DigitsExactRecodingRow.holds Trym.pinned (OpenSpec.ofChange fnP256DigitsExactRecodingWrong)

/-- 'zzlaws_internal_dpop_b1.FnRemoveDotSegmentsBySegmentStack': WHATEVER THE INPUT: true; the input reads as it did. -/
def fnRemoveDotSegmentsBySegmentStackSpec : ChangeSpec := { name := "fnRemoveDotSegmentsBySegmentStack", fn := fun _ => fun
  | [d] => { results := [.lit (.bool true)], args := [d] }
  | _ => none }
def fnRemoveDotSegmentsBySegmentStackRow : OpenClaim := { program := "qxb6003647amods", sum := "87086eec3952c14408c12007e3ad277c462b46085b50190e91d95044c274d267", func := "example.com/holdfast/holdfast/zzlaws_internal_dpop_b1.FnRemoveDotSegmentsBySegmentStack", spec := "fnRemoveDotSegmentsBySegmentStack", inPlace := ["internal/bytealg.IndexByteString", "internal/abi.NoEscape", "internal/bytealg.MakeNoZero"], make := .lifted ["publicsums"], apart := false }
def FnRemoveDotSegmentsBySegmentStackSaid : Prop := fnRemoveDotSegmentsBySegmentStackRow.holds Trym.pinned (OpenSpec.ofChange fnRemoveDotSegmentsBySegmentStackSpec)

/-- ITS FALSE NEIGHBOUR: 'it returns false'. Refute it at one input. -/
def fnRemoveDotSegmentsBySegmentStackWrong : ChangeSpec := { name := "fnRemoveDotSegmentsBySegmentStack", fn := fun _ => fun
  | [d] => { results := [.lit (.bool false)], args := [d] }
  | _ => none }
def FnRemoveDotSegmentsBySegmentStackWrongFalsely : Prop := fnRemoveDotSegmentsBySegmentStackRow.holds Trym.pinned (OpenSpec.ofChange fnRemoveDotSegmentsBySegmentStackWrong)

/-- 'zzlaws_internal_dpop_b1.FnRemoveDotSegmentsAppendSegment': WHATEVER THE INPUT: true; the input reads as it did. -/
def fnRemoveDotSegmentsAppendSegmentSpec : ChangeSpec := { name := "fnRemoveDotSegmentsAppendSegment", fn := fun _ => fun
  | [d1, d2] => { results := [.lit (.bool true)], args := [d1, d2] }
  | _ => none }
def fnRemoveDotSegmentsAppendSegmentRow : OpenClaim := { program := "qxb6003647amods", sum := "87086eec3952c14408c12007e3ad277c462b46085b50190e91d95044c274d267", func := "example.com/holdfast/holdfast/zzlaws_internal_dpop_b1.FnRemoveDotSegmentsAppendSegment", spec := "fnRemoveDotSegmentsAppendSegment", inPlace := ["internal/bytealg.IndexByteString", "internal/abi.NoEscape", "internal/bytealg.MakeNoZero"], make := .lifted ["publicsums"], apart := false }
def FnRemoveDotSegmentsAppendSegmentSaid : Prop := fnRemoveDotSegmentsAppendSegmentRow.holds Trym.pinned (OpenSpec.ofChange fnRemoveDotSegmentsAppendSegmentSpec)

/-- ITS FALSE NEIGHBOUR: 'it returns false'. Refute it at one input. -/
def fnRemoveDotSegmentsAppendSegmentWrong : ChangeSpec := { name := "fnRemoveDotSegmentsAppendSegment", fn := fun _ => fun
  | [d1, d2] => { results := [.lit (.bool false)], args := [d1, d2] }
  | _ => none }
def FnRemoveDotSegmentsAppendSegmentWrongFalsely : Prop := fnRemoveDotSegmentsAppendSegmentRow.holds Trym.pinned (OpenSpec.ofChange fnRemoveDotSegmentsAppendSegmentWrong)

end Rows
end Go.Proofs.Qxb6003647aMods
