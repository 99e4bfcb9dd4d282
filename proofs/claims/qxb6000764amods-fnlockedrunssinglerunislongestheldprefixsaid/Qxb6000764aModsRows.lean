/-
  No cell of these rows narrows 'for every input' (looked for: loops, veiled, ifaces, maps, wideKeys, modest, calm, conditions, laid).
  DERIVED. THE GIVEN ROWS OF THIS SEAT. 5 by the template 'for every input the law returns true; each argument reads behind the call as it read before'; 0 by the template 'total and deterministic' (their statements: Qxb6000764aModsTotals.lean).
  GIVEN WITH THE SEED: the statements are not yours to turn. If you find one false, say at which input.
  Laid BY PROGRAM, IN A SANDBOX (cutbox-rows.mjs): the forced cells as the released guide's own fill.sh prints them over the translation dd5522f33bcbd1de… (all of the seat's roots in one cut). By AI agents, Wed Nov 11 2026. No macro, syntax, notation, axiom, sorry.
-/
import Derived.Test.Qxb6000764aModsChecked
import GoSem.Claim
import GoSem.ClaimJoined
import GoSem.ClaimMapViews
import Derived.JoinedTies
import Derived.KernelRfl
namespace Go.Proofs.Qxb6000764aMods
/- THE CELL 'sum', in the pinned program and in every row, IS THE sha256 OF THE DUMP (.gsa) THAT Qxb6000764aModsProg.lean LOADS. Nothing in Lean hashes anything: it is a label: what it is worth is what the hold of that sum in a sandbox is worth. -/
noncomputable def Trym.pinned : Pinned := { name := "qxb6000764amods", sum := "dd5522f33bcbd1deb6f13767452b9f404601cf471aceff179a31fcae48ca2944", checked := Trym.checked }
namespace Rows
def none {H : Type} : Left H := { results := [], args := [] }

/-- 'zzlaws_internal_store_b1.FnLockedRunsSingleRunIsLongestHeldPrefix': WHATEVER THE INPUT: true; the input reads as it did. -/
def fnLockedRunsSingleRunIsLongestHeldPrefixSpec : ChangeSpec := { name := "fnLockedRunsSingleRunIsLongestHeldPrefix", fn := fun _ => fun
  | [d1, d2] => { results := [.lit (.bool true)], args := [d1, d2] }
  | _ => none }
def fnLockedRunsSingleRunIsLongestHeldPrefixRow : OpenClaim := { program := "qxb6000764amods", sum := "dd5522f33bcbd1deb6f13767452b9f404601cf471aceff179a31fcae48ca2944", func := "example.com/postledger/postledger/zzlaws_internal_store_b1.FnLockedRunsSingleRunIsLongestHeldPrefix", spec := "fnLockedRunsSingleRunIsLongestHeldPrefix", make := .lifted ["publicsums"], apart := false }
def FnLockedRunsSingleRunIsLongestHeldPrefixSaid : Prop := fnLockedRunsSingleRunIsLongestHeldPrefixRow.holds Trym.pinned (OpenSpec.ofChange fnLockedRunsSingleRunIsLongestHeldPrefixSpec)

/-- ITS FALSE NEIGHBOUR: 'it returns false'. Refute it at one input. -/
def fnLockedRunsSingleRunIsLongestHeldPrefixWrong : ChangeSpec := { name := "fnLockedRunsSingleRunIsLongestHeldPrefix", fn := fun _ => fun
  | [d1, d2] => { results := [.lit (.bool false)], args := [d1, d2] }
  | _ => none }
def FnLockedRunsSingleRunIsLongestHeldPrefixWrongFalsely : Prop := fnLockedRunsSingleRunIsLongestHeldPrefixRow.holds Trym.pinned (OpenSpec.ofChange fnLockedRunsSingleRunIsLongestHeldPrefixWrong)

/-- 'zzlaws_internal_store_b1.FnLockedRunsSplitsOverRuns': WHATEVER THE INPUT: true; the input reads as it did. -/
def fnLockedRunsSplitsOverRunsSpec : ChangeSpec := { name := "fnLockedRunsSplitsOverRuns", fn := fun _ => fun
  | [d1, d2, d3] => { results := [.lit (.bool true)], args := [d1, d2, d3] }
  | _ => none }
def fnLockedRunsSplitsOverRunsRow : OpenClaim := { program := "qxb6000764amods", sum := "dd5522f33bcbd1deb6f13767452b9f404601cf471aceff179a31fcae48ca2944", func := "example.com/postledger/postledger/zzlaws_internal_store_b1.FnLockedRunsSplitsOverRuns", spec := "fnLockedRunsSplitsOverRuns", make := .lifted ["publicsums"], apart := false }
def FnLockedRunsSplitsOverRunsSaid : Prop := fnLockedRunsSplitsOverRunsRow.holds Trym.pinned (OpenSpec.ofChange fnLockedRunsSplitsOverRunsSpec)

/-- ITS FALSE NEIGHBOUR: 'it returns false'. Refute it at one input. -/
def fnLockedRunsSplitsOverRunsWrong : ChangeSpec := { name := "fnLockedRunsSplitsOverRuns", fn := fun _ => fun
  | [d1, d2, d3] => { results := [.lit (.bool false)], args := [d1, d2, d3] }
  | _ => none }
def FnLockedRunsSplitsOverRunsWrongFalsely : Prop := fnLockedRunsSplitsOverRunsRow.holds Trym.pinned (OpenSpec.ofChange fnLockedRunsSplitsOverRunsWrong)

/-- 'zzlaws_internal_store_b1.FnLockedRunsMoreLockedNeverShorterAndOrderFree': WHATEVER THE INPUT: true; the input reads as it did. -/
def fnLockedRunsMoreLockedNeverShorterAndOrderFreeSpec : ChangeSpec := { name := "fnLockedRunsMoreLockedNeverShorterAndOrderFree", fn := fun _ => fun
  | [d1, d2, d3] => { results := [.lit (.bool true)], args := [d1, d2, d3] }
  | _ => none }
def fnLockedRunsMoreLockedNeverShorterAndOrderFreeRow : OpenClaim := { program := "qxb6000764amods", sum := "dd5522f33bcbd1deb6f13767452b9f404601cf471aceff179a31fcae48ca2944", func := "example.com/postledger/postledger/zzlaws_internal_store_b1.FnLockedRunsMoreLockedNeverShorterAndOrderFree", spec := "fnLockedRunsMoreLockedNeverShorterAndOrderFree", make := .lifted ["publicsums"], apart := false }
def FnLockedRunsMoreLockedNeverShorterAndOrderFreeSaid : Prop := fnLockedRunsMoreLockedNeverShorterAndOrderFreeRow.holds Trym.pinned (OpenSpec.ofChange fnLockedRunsMoreLockedNeverShorterAndOrderFreeSpec)

/-- ITS FALSE NEIGHBOUR: 'it returns false'. Refute it at one input. -/
def fnLockedRunsMoreLockedNeverShorterAndOrderFreeWrong : ChangeSpec := { name := "fnLockedRunsMoreLockedNeverShorterAndOrderFree", fn := fun _ => fun
  | [d1, d2, d3] => { results := [.lit (.bool false)], args := [d1, d2, d3] }
  | _ => none }
def FnLockedRunsMoreLockedNeverShorterAndOrderFreeWrongFalsely : Prop := fnLockedRunsMoreLockedNeverShorterAndOrderFreeRow.holds Trym.pinned (OpenSpec.ofChange fnLockedRunsMoreLockedNeverShorterAndOrderFreeWrong)

/-- 'zzlaws_internal_store_b1.FnPostgresRunsSplicesEachArgumentOnce': WHATEVER THE INPUT: true; the input reads as it did. -/
def fnPostgresRunsSplicesEachArgumentOnceSpec : ChangeSpec := { name := "fnPostgresRunsSplicesEachArgumentOnce", fn := fun _ => fun
  | [d1, d2, d3] => { results := [.lit (.bool true)], args := [d1, d2, d3] }
  | _ => none }
def fnPostgresRunsSplicesEachArgumentOnceRow : OpenClaim := { program := "qxb6000764amods", sum := "dd5522f33bcbd1deb6f13767452b9f404601cf471aceff179a31fcae48ca2944", func := "example.com/postledger/postledger/zzlaws_internal_store_b1.FnPostgresRunsSplicesEachArgumentOnce", spec := "fnPostgresRunsSplicesEachArgumentOnce", make := .lifted ["publicsums"], apart := false }
def FnPostgresRunsSplicesEachArgumentOnceSaid : Prop := fnPostgresRunsSplicesEachArgumentOnceRow.holds Trym.pinned (OpenSpec.ofChange fnPostgresRunsSplicesEachArgumentOnceSpec)

/-- ITS FALSE NEIGHBOUR: 'it returns false'. Refute it at one input. -/
def fnPostgresRunsSplicesEachArgumentOnceWrong : ChangeSpec := { name := "fnPostgresRunsSplicesEachArgumentOnce", fn := fun _ => fun
  | [d1, d2, d3] => { results := [.lit (.bool false)], args := [d1, d2, d3] }
  | _ => none }
def FnPostgresRunsSplicesEachArgumentOnceWrongFalsely : Prop := fnPostgresRunsSplicesEachArgumentOnceRow.holds Trym.pinned (OpenSpec.ofChange fnPostgresRunsSplicesEachArgumentOnceWrong)

/-- 'zzlaws_internal_store_b1.FnPostgresRunsInjectiveInEachArgument': WHATEVER THE INPUT: true; the input reads as it did. -/
def fnPostgresRunsInjectiveInEachArgumentSpec : ChangeSpec := { name := "fnPostgresRunsInjectiveInEachArgument", fn := fun _ => fun
  | [d1, d2, d3, d4, d5, d6] => { results := [.lit (.bool true)], args := [d1, d2, d3, d4, d5, d6] }
  | _ => none }
def fnPostgresRunsInjectiveInEachArgumentRow : OpenClaim := { program := "qxb6000764amods", sum := "dd5522f33bcbd1deb6f13767452b9f404601cf471aceff179a31fcae48ca2944", func := "example.com/postledger/postledger/zzlaws_internal_store_b1.FnPostgresRunsInjectiveInEachArgument", spec := "fnPostgresRunsInjectiveInEachArgument", make := .lifted ["publicsums"], apart := false }
def FnPostgresRunsInjectiveInEachArgumentSaid : Prop := fnPostgresRunsInjectiveInEachArgumentRow.holds Trym.pinned (OpenSpec.ofChange fnPostgresRunsInjectiveInEachArgumentSpec)

/-- ITS FALSE NEIGHBOUR: 'it returns false'. Refute it at one input. -/
def fnPostgresRunsInjectiveInEachArgumentWrong : ChangeSpec := { name := "fnPostgresRunsInjectiveInEachArgument", fn := fun _ => fun
  | [d1, d2, d3, d4, d5, d6] => { results := [.lit (.bool false)], args := [d1, d2, d3, d4, d5, d6] }
  | _ => none }
def FnPostgresRunsInjectiveInEachArgumentWrongFalsely : Prop := fnPostgresRunsInjectiveInEachArgumentRow.holds Trym.pinned (OpenSpec.ofChange fnPostgresRunsInjectiveInEachArgumentWrong)

end Rows
end Go.Proofs.Qxb6000764aMods
