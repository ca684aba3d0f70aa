/-
  No cell of these rows narrows 'for every input' (looked for: loops, veiled, ifaces, maps, wideKeys, modest, calm, conditions, laid).
  DERIVED. THE GIVEN ROWS OF THIS SEAT. 3 by the template 'for every input the law returns true; each argument reads behind the call as it read before'; 0 by the template 'total and deterministic' (their statements: Qxb6606310aModsTotals.lean).
  GIVEN WITH THE SEED: the statements are not yours to turn. If you find one false, say at which input.
  Laid BY PROGRAM, IN A SANDBOX (cutbox-rows.mjs): the forced cells as the released guide's own fill.sh prints them over the translation 21ccae3c5d99ac5a… (all of the seat's roots in one cut). By AI agents, Wed Nov 11 2026. No macro, syntax, notation, axiom, sorry.
-/
import Derived.Test.Qxb6606310aModsChecked
import GoSem.Claim
import GoSem.ClaimJoined
import GoSem.ClaimMapViews
import Derived.JoinedTies
import Derived.KernelRfl
namespace Go.Proofs.Qxb6606310aMods
/- THE CELL 'sum', in the pinned program and in every row, IS THE sha256 OF THE DUMP (.gsa) THAT Qxb6606310aModsProg.lean LOADS. Nothing in Lean hashes anything: it is a label: what it is worth is what the hold of that sum in a sandbox is worth. -/
noncomputable def Trym.pinned : Pinned := { name := "qxb6606310amods", sum := "21ccae3c5d99ac5a9dd037fb421b78ece9190fcb07e22795483918aaf070c2ab", checked := Trym.checked }
namespace Rows
def none {H : Type} : Left H := { results := [], args := [] }

/-- 'zzlaws_internal_api_b1.FnSkipValueMatchesFlatAutomaton': WHATEVER THE INPUT: true; the input reads as it did. -/
def fnSkipValueMatchesFlatAutomatonSpec : ChangeSpec := { name := "fnSkipValueMatchesFlatAutomaton", fn := fun _ => fun
  | [d1, d2] => { results := [.lit (.bool true)], args := [d1, d2] }
  | _ => none }
def fnSkipValueMatchesFlatAutomatonRow : OpenClaim := { program := "qxb6606310amods", sum := "21ccae3c5d99ac5a9dd037fb421b78ece9190fcb07e22795483918aaf070c2ab", func := "example.com/concordat/concordat/zzlaws_internal_api_b1.FnSkipValueMatchesFlatAutomaton", spec := "fnSkipValueMatchesFlatAutomaton", make := .lifted ["publicsums"], apart := false }
def FnSkipValueMatchesFlatAutomatonSaid : Prop := fnSkipValueMatchesFlatAutomatonRow.holds Trym.pinned (OpenSpec.ofChange fnSkipValueMatchesFlatAutomatonSpec)

/-- ITS FALSE NEIGHBOUR: 'it returns false'. Refute it at one input. -/
def fnSkipValueMatchesFlatAutomatonWrong : ChangeSpec := { name := "fnSkipValueMatchesFlatAutomaton", fn := fun _ => fun
  | [d1, d2] => { results := [.lit (.bool false)], args := [d1, d2] }
  | _ => none }
def FnSkipValueMatchesFlatAutomatonWrongFalsely : Prop := fnSkipValueMatchesFlatAutomatonRow.holds Trym.pinned (OpenSpec.ofChange fnSkipValueMatchesFlatAutomatonWrong)

/-- 'zzlaws_internal_api_b1.FnSkipValueEndsAfterBuiltContainer': WHATEVER THE INPUT: true; the input reads as it did. -/
def fnSkipValueEndsAfterBuiltContainerSpec : ChangeSpec := { name := "fnSkipValueEndsAfterBuiltContainer", fn := fun _ => fun
  | [d1, d2, d3] => { results := [.lit (.bool true)], args := [d1, d2, d3] }
  | _ => none }
def fnSkipValueEndsAfterBuiltContainerRow : OpenClaim := { program := "qxb6606310amods", sum := "21ccae3c5d99ac5a9dd037fb421b78ece9190fcb07e22795483918aaf070c2ab", func := "example.com/concordat/concordat/zzlaws_internal_api_b1.FnSkipValueEndsAfterBuiltContainer", spec := "fnSkipValueEndsAfterBuiltContainer", make := .lifted ["publicsums"], apart := false }
def FnSkipValueEndsAfterBuiltContainerSaid : Prop := fnSkipValueEndsAfterBuiltContainerRow.holds Trym.pinned (OpenSpec.ofChange fnSkipValueEndsAfterBuiltContainerSpec)

/-- ITS FALSE NEIGHBOUR: 'it returns false'. Refute it at one input. -/
def fnSkipValueEndsAfterBuiltContainerWrong : ChangeSpec := { name := "fnSkipValueEndsAfterBuiltContainer", fn := fun _ => fun
  | [d1, d2, d3] => { results := [.lit (.bool false)], args := [d1, d2, d3] }
  | _ => none }
def FnSkipValueEndsAfterBuiltContainerWrongFalsely : Prop := fnSkipValueEndsAfterBuiltContainerRow.holds Trym.pinned (OpenSpec.ofChange fnSkipValueEndsAfterBuiltContainerWrong)

/-- 'zzlaws_internal_api_b1.FnSkipValueEndsScalarAtFollower': WHATEVER THE INPUT: true; the input reads as it did. -/
def fnSkipValueEndsScalarAtFollowerSpec : ChangeSpec := { name := "fnSkipValueEndsScalarAtFollower", fn := fun _ => fun
  | [d1, d2, d3, d4, d5] => { results := [.lit (.bool true)], args := [d1, d2, d3, d4, d5] }
  | _ => none }
def fnSkipValueEndsScalarAtFollowerRow : OpenClaim := { program := "qxb6606310amods", sum := "21ccae3c5d99ac5a9dd037fb421b78ece9190fcb07e22795483918aaf070c2ab", func := "example.com/concordat/concordat/zzlaws_internal_api_b1.FnSkipValueEndsScalarAtFollower", spec := "fnSkipValueEndsScalarAtFollower", make := .lifted ["publicsums"], apart := false }
def FnSkipValueEndsScalarAtFollowerSaid : Prop := fnSkipValueEndsScalarAtFollowerRow.holds Trym.pinned (OpenSpec.ofChange fnSkipValueEndsScalarAtFollowerSpec)

/-- ITS FALSE NEIGHBOUR: 'it returns false'. Refute it at one input. -/
def fnSkipValueEndsScalarAtFollowerWrong : ChangeSpec := { name := "fnSkipValueEndsScalarAtFollower", fn := fun _ => fun
  | [d1, d2, d3, d4, d5] => { results := [.lit (.bool false)], args := [d1, d2, d3, d4, d5] }
  | _ => none }
def FnSkipValueEndsScalarAtFollowerWrongFalsely : Prop := fnSkipValueEndsScalarAtFollowerRow.holds Trym.pinned (OpenSpec.ofChange fnSkipValueEndsScalarAtFollowerWrong)

end Rows
end Go.Proofs.Qxb6606310aMods
