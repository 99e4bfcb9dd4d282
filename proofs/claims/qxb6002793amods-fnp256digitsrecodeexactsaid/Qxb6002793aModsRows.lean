/-
  No cell of these rows narrows 'for every input' (looked for: loops, veiled, ifaces, maps, wideKeys, modest, calm, conditions, laid).
  DERIVED. THE GIVEN ROWS OF THIS SEAT. 3 by the template 'for every input the law returns true; each argument reads behind the call as it read before'; 0 by the template 'total and deterministic' (their statements: Qxb6002793aModsTotals.lean).
  GIVEN WITH THE SEED: the statements are not yours to turn. If you find one false, say at which input.
  Laid BY PROGRAM, IN A SANDBOX (cutbox-rows.mjs): the forced cells as the released guide's own fill.sh prints them over the translation 8a6ba4dda75d6cd3… (all of the seat's roots in one cut). By AI agents, Wed Nov 11 2026. No macro, syntax, notation, axiom, sorry.
-/
import Derived.Test.Qxb6002793aModsChecked
import GoSem.Claim
import GoSem.ClaimJoined
import GoSem.ClaimMapViews
import Derived.JoinedTies
import Derived.KernelRfl
namespace Go.Proofs.Qxb6002793aMods
/- THE CELL 'sum', in the pinned program and in every row, IS THE sha256 OF THE DUMP (.gsa) THAT Qxb6002793aModsProg.lean LOADS. Nothing in Lean hashes anything: it is a label: what it is worth is what the hold of that sum in a sandbox is worth. -/
noncomputable def Trym.pinned : Pinned := { name := "qxb6002793amods", sum := "8a6ba4dda75d6cd34dc95d749d28f6bb01a2946d3842fd88cc703939b391ff9b", checked := Trym.checked }
namespace Rows
def none {H : Type} : Left H := { results := [], args := [] }

/-- 'zzlaws_internal_dpop_b1.FnP256DigitsRecodeExact': WHATEVER THE INPUT: true; the input reads as it did. -/
def fnP256DigitsRecodeExactSpec : ChangeSpec := { name := "fnP256DigitsRecodeExact", fn := fun _ => fun
  | [d] => { results := [.lit (.bool true)], args := [d] }
  | _ => none }
def fnP256DigitsRecodeExactRow : OpenClaim := { program := "qxb6002793amods", sum := "8a6ba4dda75d6cd34dc95d749d28f6bb01a2946d3842fd88cc703939b391ff9b", func := "example.com/holdfast/holdfast/zzlaws_internal_dpop_b1.FnP256DigitsRecodeExact", spec := "fnP256DigitsRecodeExact", make := .lifted ["publicsums"], apart := false }
def FnP256DigitsRecodeExactSaid : Prop := fnP256DigitsRecodeExactRow.holds Trym.pinned (OpenSpec.ofChange fnP256DigitsRecodeExactSpec)

/-- ITS FALSE NEIGHBOUR: 'it returns false'. Refute it at one input. -/
def fnP256DigitsRecodeExactWrong : ChangeSpec := { name := "fnP256DigitsRecodeExact", fn := fun _ => fun
  | [d] => { results := [.lit (.bool false)], args := [d] }
  | _ => none }
def FnP256DigitsRecodeExactWrongFalsely : Prop := fnP256DigitsRecodeExactRow.holds Trym.pinned (OpenSpec.ofChange fnP256DigitsRecodeExactWrong)

/-- 'zzlaws_internal_dpop_b1.FnRemoveDotSegmentsStackModel': WHATEVER THE INPUT: true; the input reads as it did. -/
def fnRemoveDotSegmentsStackModelSpec : ChangeSpec := { name := "fnRemoveDotSegmentsStackModel", fn := fun _ => fun
  | [d] => { results := [.lit (.bool true)], args := [d] }
  | _ => none }
def fnRemoveDotSegmentsStackModelRow : OpenClaim := { program := "qxb6002793amods", sum := "8a6ba4dda75d6cd34dc95d749d28f6bb01a2946d3842fd88cc703939b391ff9b", func := "example.com/holdfast/holdfast/zzlaws_internal_dpop_b1.FnRemoveDotSegmentsStackModel", spec := "fnRemoveDotSegmentsStackModel", inPlace := ["internal/bytealg.IndexByteString", "internal/abi.NoEscape", "internal/bytealg.MakeNoZero"], make := .lifted ["publicsums"], apart := false }
def FnRemoveDotSegmentsStackModelSaid : Prop := fnRemoveDotSegmentsStackModelRow.holds Trym.pinned (OpenSpec.ofChange fnRemoveDotSegmentsStackModelSpec)

/-- ITS FALSE NEIGHBOUR: 'it returns false'. Refute it at one input. -/
def fnRemoveDotSegmentsStackModelWrong : ChangeSpec := { name := "fnRemoveDotSegmentsStackModel", fn := fun _ => fun
  | [d] => { results := [.lit (.bool false)], args := [d] }
  | _ => none }
def FnRemoveDotSegmentsStackModelWrongFalsely : Prop := fnRemoveDotSegmentsStackModelRow.holds Trym.pinned (OpenSpec.ofChange fnRemoveDotSegmentsStackModelWrong)

/-- 'zzlaws_internal_dpop_b1.FnRemoveDotSegmentsCleanIdempotent': WHATEVER THE INPUT: true; the input reads as it did. -/
def fnRemoveDotSegmentsCleanIdempotentSpec : ChangeSpec := { name := "fnRemoveDotSegmentsCleanIdempotent", fn := fun _ => fun
  | [d] => { results := [.lit (.bool true)], args := [d] }
  | _ => none }
def fnRemoveDotSegmentsCleanIdempotentRow : OpenClaim := { program := "qxb6002793amods", sum := "8a6ba4dda75d6cd34dc95d749d28f6bb01a2946d3842fd88cc703939b391ff9b", func := "example.com/holdfast/holdfast/zzlaws_internal_dpop_b1.FnRemoveDotSegmentsCleanIdempotent", spec := "fnRemoveDotSegmentsCleanIdempotent", inPlace := ["internal/bytealg.IndexByteString", "internal/abi.NoEscape", "internal/bytealg.MakeNoZero"], make := .lifted ["publicsums"], apart := false }
def FnRemoveDotSegmentsCleanIdempotentSaid : Prop := fnRemoveDotSegmentsCleanIdempotentRow.holds Trym.pinned (OpenSpec.ofChange fnRemoveDotSegmentsCleanIdempotentSpec)

/-- ITS FALSE NEIGHBOUR: 'it returns false'. Refute it at one input. -/
def fnRemoveDotSegmentsCleanIdempotentWrong : ChangeSpec := { name := "fnRemoveDotSegmentsCleanIdempotent", fn := fun _ => fun
  | [d] => { results := [.lit (.bool false)], args := [d] }
  | _ => none }
def FnRemoveDotSegmentsCleanIdempotentWrongFalsely : Prop := fnRemoveDotSegmentsCleanIdempotentRow.holds Trym.pinned (OpenSpec.ofChange fnRemoveDotSegmentsCleanIdempotentWrong)

end Rows
end Go.Proofs.Qxb6002793aMods
