/-
  No cell of these rows narrows 'for every input' (looked for: loops, veiled, ifaces, maps, wideKeys, modest, calm, conditions, laid).
  DERIVED. THE GIVEN ROWS OF THIS SEAT. 3 by the template 'for every input the law returns true; each argument reads behind the call as it read before'; 0 by the template 'total and deterministic' (their statements: Qxb6609269aModsTotals.lean).
  GIVEN WITH THE SEED: the statements are not yours to turn. If you find one false, say at which input.
  Laid BY PROGRAM, IN A SANDBOX (cutbox-rows.mjs): the forced cells as the released guide's own fill.sh prints them over the translation 6e277ee2a5cb6ecd… (all of the seat's roots in one cut). By AI agents, Wed Nov 11 2026. No macro, syntax, notation, axiom, sorry.
-/
import Derived.Test.Qxb6609269aModsChecked
import GoSem.Claim
import GoSem.ClaimJoined
import GoSem.ClaimMapViews
import Derived.JoinedTies
import Derived.KernelRfl
namespace Go.Proofs.Qxb6609269aMods
/- THE CELL 'sum', in the pinned program and in every row, IS THE sha256 OF THE DUMP (.gsa) THAT Qxb6609269aModsProg.lean LOADS. Nothing in Lean hashes anything: it is a label: what it is worth is what the hold of that sum in a sandbox is worth. -/
noncomputable def Trym.pinned : Pinned := { name := "qxb6609269amods", sum := "6e277ee2a5cb6ecd745c6f03fdffba8704e60170b34f066108f037dbc5111883", checked := Trym.checked }
namespace Rows
def none {H : Type} : Left H := { results := [], args := [] }

/-- 'zzlaws_internal_catalog_b1.FnSqlListIsJoinedPlaceholders': WHATEVER THE INPUT: true; the input reads as it did. -/
def fnSqlListIsJoinedPlaceholdersSpec : ChangeSpec := { name := "fnSqlListIsJoinedPlaceholders", fn := fun _ => fun
  | [d] => { results := [.lit (.bool true)], args := [d] }
  | _ => none }
def fnSqlListIsJoinedPlaceholdersRow : OpenClaim := { program := "qxb6609269amods", sum := "6e277ee2a5cb6ecd745c6f03fdffba8704e60170b34f066108f037dbc5111883", func := "example.com/whocan/whocan/zzlaws_internal_catalog_b1.FnSqlListIsJoinedPlaceholders", spec := "fnSqlListIsJoinedPlaceholders", inPlace := ["internal/abi.NoEscape", "internal/bytealg.MakeNoZero"], make := .lifted ["publicsums"], apart := false }
def FnSqlListIsJoinedPlaceholdersSaid : Prop := fnSqlListIsJoinedPlaceholdersRow.holds Trym.pinned (OpenSpec.ofChange fnSqlListIsJoinedPlaceholdersSpec)

/-- ITS FALSE NEIGHBOUR: 'it returns false'. Refute it at one input. -/
def fnSqlListIsJoinedPlaceholdersWrong : ChangeSpec := { name := "fnSqlListIsJoinedPlaceholders", fn := fun _ => fun
  | [d] => { results := [.lit (.bool false)], args := [d] }
  | _ => none }
def FnSqlListIsJoinedPlaceholdersWrongFalsely : Prop := fnSqlListIsJoinedPlaceholdersRow.holds Trym.pinned (OpenSpec.ofChange fnSqlListIsJoinedPlaceholdersWrong)

/-- 'zzlaws_internal_catalog_b1.FnSqlListGrowsByOnePlaceholder': WHATEVER THE INPUT: true; the input reads as it did. -/
def fnSqlListGrowsByOnePlaceholderSpec : ChangeSpec := { name := "fnSqlListGrowsByOnePlaceholder", fn := fun _ => fun
  | [d] => { results := [.lit (.bool true)], args := [d] }
  | _ => none }
def fnSqlListGrowsByOnePlaceholderRow : OpenClaim := { program := "qxb6609269amods", sum := "6e277ee2a5cb6ecd745c6f03fdffba8704e60170b34f066108f037dbc5111883", func := "example.com/whocan/whocan/zzlaws_internal_catalog_b1.FnSqlListGrowsByOnePlaceholder", spec := "fnSqlListGrowsByOnePlaceholder", inPlace := ["internal/abi.NoEscape", "internal/bytealg.MakeNoZero"], make := .lifted ["publicsums"], apart := false }
def FnSqlListGrowsByOnePlaceholderSaid : Prop := fnSqlListGrowsByOnePlaceholderRow.holds Trym.pinned (OpenSpec.ofChange fnSqlListGrowsByOnePlaceholderSpec)

/-- ITS FALSE NEIGHBOUR: 'it returns false'. Refute it at one input. -/
def fnSqlListGrowsByOnePlaceholderWrong : ChangeSpec := { name := "fnSqlListGrowsByOnePlaceholder", fn := fun _ => fun
  | [d] => { results := [.lit (.bool false)], args := [d] }
  | _ => none }
def FnSqlListGrowsByOnePlaceholderWrongFalsely : Prop := fnSqlListGrowsByOnePlaceholderRow.holds Trym.pinned (OpenSpec.ofChange fnSqlListGrowsByOnePlaceholderWrong)

/-- 'zzlaws_internal_catalog_b1.FnNearnessPositiveExactlyWhenTwoWordsStandNear': WHATEVER THE INPUT: true; the input reads as it did. -/
def fnNearnessPositiveExactlyWhenTwoWordsStandNearSpec : ChangeSpec := { name := "fnNearnessPositiveExactlyWhenTwoWordsStandNear", fn := fun _ => fun
  | [d1, d2, d3, d4, d5] => { results := [.lit (.bool true)], args := [d1, d2, d3, d4, d5] }
  | _ => none }
def fnNearnessPositiveExactlyWhenTwoWordsStandNearRow : OpenClaim := { program := "qxb6609269amods", sum := "6e277ee2a5cb6ecd745c6f03fdffba8704e60170b34f066108f037dbc5111883", func := "example.com/whocan/whocan/zzlaws_internal_catalog_b1.FnNearnessPositiveExactlyWhenTwoWordsStandNear", spec := "fnNearnessPositiveExactlyWhenTwoWordsStandNear", make := .lifted ["publicsums"], apart := false }
def FnNearnessPositiveExactlyWhenTwoWordsStandNearSaid : Prop := fnNearnessPositiveExactlyWhenTwoWordsStandNearRow.holds Trym.pinned (OpenSpec.ofChange fnNearnessPositiveExactlyWhenTwoWordsStandNearSpec)

/-- ITS FALSE NEIGHBOUR: 'it returns false'. Refute it at one input. -/
def fnNearnessPositiveExactlyWhenTwoWordsStandNearWrong : ChangeSpec := { name := "fnNearnessPositiveExactlyWhenTwoWordsStandNear", fn := fun _ => fun
  | [d1, d2, d3, d4, d5] => { results := [.lit (.bool false)], args := [d1, d2, d3, d4, d5] }
  | _ => none }
def FnNearnessPositiveExactlyWhenTwoWordsStandNearWrongFalsely : Prop := fnNearnessPositiveExactlyWhenTwoWordsStandNearRow.holds Trym.pinned (OpenSpec.ofChange fnNearnessPositiveExactlyWhenTwoWordsStandNearWrong)

end Rows
end Go.Proofs.Qxb6609269aMods
