/-
  No cell of these rows narrows 'for every input' (looked for: loops, veiled, ifaces, maps, wideKeys, modest, calm, conditions, laid).
  DERIVED. THE GIVEN ROWS OF THIS SEAT. 5 by the template 'for every input the law returns true; each argument reads behind the call as it read before'; 0 by the template 'total and deterministic' (their statements: Qxb6000402aModsTotals.lean).
  GIVEN WITH THE SEED: the statements are not yours to turn. If you find one false, say at which input.
  Laid BY PROGRAM, IN A SANDBOX (cutbox-rows.mjs): the forced cells as the released guide's own fill.sh prints them over the translation fe21991b90cd9771… (all of the seat's roots in one cut). By AI agents, Wed Nov 11 2026. No macro, syntax, notation, axiom, sorry.
-/
import Derived.Test.Qxb6000402aModsChecked
import GoSem.Claim
import GoSem.ClaimJoined
import GoSem.ClaimMapViews
import Derived.JoinedTies
import Derived.KernelRfl
namespace Go.Proofs.Qxb6000402aMods
/- THE CELL 'sum', in the pinned program and in every row, IS THE sha256 OF THE DUMP (.gsa) THAT Qxb6000402aModsProg.lean LOADS. Nothing in Lean hashes anything: it is a label: what it is worth is what the hold of that sum in a sandbox is worth. -/
noncomputable def Trym.pinned : Pinned := { name := "qxb6000402amods", sum := "fe21991b90cd9771c15f42ddabd782570e7896753201061e88d32cfe01da3777", checked := Trym.checked }
namespace Rows
def none {H : Type} : Left H := { results := [], args := [] }

/-- 'zzlaws_root_b1.FnNewCircleIsStableSortOfPoints': WHATEVER THE INPUT: true; the input reads as it did. -/
def fnNewCircleIsStableSortOfPointsSpec : ChangeSpec := { name := "fnNewCircleIsStableSortOfPoints", fn := fun _ => fun
  | [d1, d2] => { results := [.lit (.bool true)], args := [d1, d2] }
  | _ => none }
def fnNewCircleIsStableSortOfPointsRow : OpenClaim := { program := "qxb6000402amods", sum := "fe21991b90cd9771c15f42ddabd782570e7896753201061e88d32cfe01da3777", func := "example.com/steady-ring/steady-ring/zzlaws_root_b1.FnNewCircleIsStableSortOfPoints", spec := "fnNewCircleIsStableSortOfPoints", make := .lifted ["publicsums"], apart := false }
def FnNewCircleIsStableSortOfPointsSaid : Prop := fnNewCircleIsStableSortOfPointsRow.holds Trym.pinned (OpenSpec.ofChange fnNewCircleIsStableSortOfPointsSpec)

/-- ITS FALSE NEIGHBOUR: 'it returns false'. Refute it at one input. -/
def fnNewCircleIsStableSortOfPointsWrong : ChangeSpec := { name := "fnNewCircleIsStableSortOfPoints", fn := fun _ => fun
  | [d1, d2] => { results := [.lit (.bool false)], args := [d1, d2] }
  | _ => none }
def FnNewCircleIsStableSortOfPointsWrongFalsely : Prop := fnNewCircleIsStableSortOfPointsRow.holds Trym.pinned (OpenSpec.ofChange fnNewCircleIsStableSortOfPointsWrong)

/-- 'zzlaws_root_b1.FnNewCircleSortedInputIsFixedPoint': WHATEVER THE INPUT: true; the input reads as it did. -/
def fnNewCircleSortedInputIsFixedPointSpec : ChangeSpec := { name := "fnNewCircleSortedInputIsFixedPoint", fn := fun _ => fun
  | [d1, d2] => { results := [.lit (.bool true)], args := [d1, d2] }
  | _ => none }
def fnNewCircleSortedInputIsFixedPointRow : OpenClaim := { program := "qxb6000402amods", sum := "fe21991b90cd9771c15f42ddabd782570e7896753201061e88d32cfe01da3777", func := "example.com/steady-ring/steady-ring/zzlaws_root_b1.FnNewCircleSortedInputIsFixedPoint", spec := "fnNewCircleSortedInputIsFixedPoint", make := .lifted ["publicsums"], apart := false }
def FnNewCircleSortedInputIsFixedPointSaid : Prop := fnNewCircleSortedInputIsFixedPointRow.holds Trym.pinned (OpenSpec.ofChange fnNewCircleSortedInputIsFixedPointSpec)

/-- ITS FALSE NEIGHBOUR: 'it returns false'. Refute it at one input. -/
def fnNewCircleSortedInputIsFixedPointWrong : ChangeSpec := { name := "fnNewCircleSortedInputIsFixedPoint", fn := fun _ => fun
  | [d1, d2] => { results := [.lit (.bool false)], args := [d1, d2] }
  | _ => none }
def FnNewCircleSortedInputIsFixedPointWrongFalsely : Prop := fnNewCircleSortedInputIsFixedPointRow.holds Trym.pinned (OpenSpec.ofChange fnNewCircleSortedInputIsFixedPointWrong)

/-- 'zzlaws_root_b1.FnNewCircleReversedListingReversesTiesOnly': WHATEVER THE INPUT: true; the input reads as it did. -/
def fnNewCircleReversedListingReversesTiesOnlySpec : ChangeSpec := { name := "fnNewCircleReversedListingReversesTiesOnly", fn := fun _ => fun
  | [d1, d2] => { results := [.lit (.bool true)], args := [d1, d2] }
  | _ => none }
def fnNewCircleReversedListingReversesTiesOnlyRow : OpenClaim := { program := "qxb6000402amods", sum := "fe21991b90cd9771c15f42ddabd782570e7896753201061e88d32cfe01da3777", func := "example.com/steady-ring/steady-ring/zzlaws_root_b1.FnNewCircleReversedListingReversesTiesOnly", spec := "fnNewCircleReversedListingReversesTiesOnly", make := .lifted ["publicsums"], apart := false }
def FnNewCircleReversedListingReversesTiesOnlySaid : Prop := fnNewCircleReversedListingReversesTiesOnlyRow.holds Trym.pinned (OpenSpec.ofChange fnNewCircleReversedListingReversesTiesOnlySpec)

/-- ITS FALSE NEIGHBOUR: 'it returns false'. Refute it at one input. -/
def fnNewCircleReversedListingReversesTiesOnlyWrong : ChangeSpec := { name := "fnNewCircleReversedListingReversesTiesOnly", fn := fun _ => fun
  | [d1, d2] => { results := [.lit (.bool false)], args := [d1, d2] }
  | _ => none }
def FnNewCircleReversedListingReversesTiesOnlyWrongFalsely : Prop := fnNewCircleReversedListingReversesTiesOnlyRow.holds Trym.pinned (OpenSpec.ofChange fnNewCircleReversedListingReversesTiesOnlyWrong)

/-- 'zzlaws_root_b1.FnFirstMatchesLinearScan': WHATEVER THE INPUT: true; the input reads as it did. -/
def fnFirstMatchesLinearScanSpec : ChangeSpec := { name := "fnFirstMatchesLinearScan", fn := fun _ => fun
  | [d1, d2, d3] => { results := [.lit (.bool true)], args := [d1, d2, d3] }
  | _ => none }
def fnFirstMatchesLinearScanRow : OpenClaim := { program := "qxb6000402amods", sum := "fe21991b90cd9771c15f42ddabd782570e7896753201061e88d32cfe01da3777", func := "example.com/steady-ring/steady-ring/zzlaws_root_b1.FnFirstMatchesLinearScan", spec := "fnFirstMatchesLinearScan", make := .lifted ["publicsums"], apart := false }
def FnFirstMatchesLinearScanSaid : Prop := fnFirstMatchesLinearScanRow.holds Trym.pinned (OpenSpec.ofChange fnFirstMatchesLinearScanSpec)

/-- ITS FALSE NEIGHBOUR: 'it returns false'. Refute it at one input. -/
def fnFirstMatchesLinearScanWrong : ChangeSpec := { name := "fnFirstMatchesLinearScan", fn := fun _ => fun
  | [d1, d2, d3] => { results := [.lit (.bool false)], args := [d1, d2, d3] }
  | _ => none }
def FnFirstMatchesLinearScanWrongFalsely : Prop := fnFirstMatchesLinearScanRow.holds Trym.pinned (OpenSpec.ofChange fnFirstMatchesLinearScanWrong)

/-- 'zzlaws_root_b1.FnFirstOnEveryPointAndJustPast': WHATEVER THE INPUT: true; the input reads as it did. -/
def fnFirstOnEveryPointAndJustPastSpec : ChangeSpec := { name := "fnFirstOnEveryPointAndJustPast", fn := fun _ => fun
  | [d1, d2] => { results := [.lit (.bool true)], args := [d1, d2] }
  | _ => none }
def fnFirstOnEveryPointAndJustPastRow : OpenClaim := { program := "qxb6000402amods", sum := "fe21991b90cd9771c15f42ddabd782570e7896753201061e88d32cfe01da3777", func := "example.com/steady-ring/steady-ring/zzlaws_root_b1.FnFirstOnEveryPointAndJustPast", spec := "fnFirstOnEveryPointAndJustPast", make := .lifted ["publicsums"], apart := false }
def FnFirstOnEveryPointAndJustPastSaid : Prop := fnFirstOnEveryPointAndJustPastRow.holds Trym.pinned (OpenSpec.ofChange fnFirstOnEveryPointAndJustPastSpec)

/-- ITS FALSE NEIGHBOUR: 'it returns false'. Refute it at one input. -/
def fnFirstOnEveryPointAndJustPastWrong : ChangeSpec := { name := "fnFirstOnEveryPointAndJustPast", fn := fun _ => fun
  | [d1, d2] => { results := [.lit (.bool false)], args := [d1, d2] }
  | _ => none }
def FnFirstOnEveryPointAndJustPastWrongFalsely : Prop := fnFirstOnEveryPointAndJustPastRow.holds Trym.pinned (OpenSpec.ofChange fnFirstOnEveryPointAndJustPastWrong)

end Rows
end Go.Proofs.Qxb6000402aMods
