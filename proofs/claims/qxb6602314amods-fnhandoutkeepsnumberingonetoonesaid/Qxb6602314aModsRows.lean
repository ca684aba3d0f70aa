/-
  No cell of these rows narrows 'for every input' (looked for: loops, veiled, ifaces, maps, wideKeys, modest, calm, conditions, laid).
  DERIVED. THE GIVEN ROWS OF THIS SEAT. 6 by the template 'for every input the law returns true; each argument reads behind the call as it read before'; 0 by the template 'total and deterministic' (their statements: Qxb6602314aModsTotals.lean).
  GIVEN WITH THE SEED: the statements are not yours to turn. If you find one false, say at which input.
  Laid BY PROGRAM, IN A SANDBOX (cutbox-rows.mjs): the forced cells as the released guide's own fill.sh prints them over the translation 512e6eb8c927a734… (all of the seat's roots in one cut). By AI agents, Wed Nov 11 2026. No macro, syntax, notation, axiom, sorry.
-/
import Derived.Test.Qxb6602314aModsChecked
import GoSem.Claim
import GoSem.ClaimJoined
import GoSem.ClaimMapViews
import Derived.JoinedTies
import Derived.KernelRfl
namespace Go.Proofs.Qxb6602314aMods
/- THE CELL 'sum', in the pinned program and in every row, IS THE sha256 OF THE DUMP (.gsa) THAT Qxb6602314aModsProg.lean LOADS. Nothing in Lean hashes anything: it is a label: what it is worth is what the hold of that sum in a sandbox is worth. -/
noncomputable def Trym.pinned : Pinned := { name := "qxb6602314amods", sum := "512e6eb8c927a734513849f39def5ceaa96ac8df618ed1b8b18f029208563722", checked := Trym.checked }
namespace Rows
def none {H : Type} : Left H := { results := [], args := [] }

/-- 'zzlaws_pkg_topology_b1.FnHandOutSecondCallChangesNothing': WHATEVER THE INPUT: true; the input reads as it did. -/
def fnHandOutSecondCallChangesNothingSpec : ChangeSpec := { name := "fnHandOutSecondCallChangesNothing", fn := fun _ => fun
  | [d1, d2, d3, d4] => { results := [.lit (.bool true)], args := [d1, d2, d3, d4] }
  | _ => none }
def fnHandOutSecondCallChangesNothingRow : OpenClaim := { program := "qxb6602314amods", sum := "512e6eb8c927a734513849f39def5ceaa96ac8df618ed1b8b18f029208563722", func := "example.com/isthmus/isthmus/zzlaws_pkg_topology_b1.FnHandOutSecondCallChangesNothing", spec := "fnHandOutSecondCallChangesNothing", make := .lifted ["publicsums"], apart := false }
def FnHandOutSecondCallChangesNothingSaid : Prop := fnHandOutSecondCallChangesNothingRow.holds Trym.pinned (OpenSpec.ofChange fnHandOutSecondCallChangesNothingSpec)

/-- ITS FALSE NEIGHBOUR: 'it returns false'. Refute it at one input. -/
def fnHandOutSecondCallChangesNothingWrong : ChangeSpec := { name := "fnHandOutSecondCallChangesNothing", fn := fun _ => fun
  | [d1, d2, d3, d4] => { results := [.lit (.bool false)], args := [d1, d2, d3, d4] }
  | _ => none }
def FnHandOutSecondCallChangesNothingWrongFalsely : Prop := fnHandOutSecondCallChangesNothingRow.holds Trym.pinned (OpenSpec.ofChange fnHandOutSecondCallChangesNothingWrong)

/-- 'zzlaws_pkg_topology_b1.FnHandOutKeepsNumberingOneToOne': WHATEVER THE INPUT: true; the input reads as it did. -/
def fnHandOutKeepsNumberingOneToOneSpec : ChangeSpec := { name := "fnHandOutKeepsNumberingOneToOne", fn := fun _ => fun
  | [d1, d2, d3, d4] => { results := [.lit (.bool true)], args := [d1, d2, d3, d4] }
  | _ => none }
def fnHandOutKeepsNumberingOneToOneRow : OpenClaim := { program := "qxb6602314amods", sum := "512e6eb8c927a734513849f39def5ceaa96ac8df618ed1b8b18f029208563722", func := "example.com/isthmus/isthmus/zzlaws_pkg_topology_b1.FnHandOutKeepsNumberingOneToOne", spec := "fnHandOutKeepsNumberingOneToOne", make := .lifted ["publicsums"], apart := false }
def FnHandOutKeepsNumberingOneToOneSaid : Prop := fnHandOutKeepsNumberingOneToOneRow.holds Trym.pinned (OpenSpec.ofChange fnHandOutKeepsNumberingOneToOneSpec)

/-- ITS FALSE NEIGHBOUR: 'it returns false'. Refute it at one input. -/
def fnHandOutKeepsNumberingOneToOneWrong : ChangeSpec := { name := "fnHandOutKeepsNumberingOneToOne", fn := fun _ => fun
  | [d1, d2, d3, d4] => { results := [.lit (.bool false)], args := [d1, d2, d3, d4] }
  | _ => none }
def FnHandOutKeepsNumberingOneToOneWrongFalsely : Prop := fnHandOutKeepsNumberingOneToOneRow.holds Trym.pinned (OpenSpec.ofChange fnHandOutKeepsNumberingOneToOneWrong)

/-- 'zzlaws_pkg_topology_b1.FnAgreeingMatchesSortedModel': WHATEVER THE INPUT: true; the input reads as it did. -/
def fnAgreeingMatchesSortedModelSpec : ChangeSpec := { name := "fnAgreeingMatchesSortedModel", fn := fun _ => fun
  | [d] => { results := [.lit (.bool true)], args := [d] }
  | _ => none }
def fnAgreeingMatchesSortedModelRow : OpenClaim := { program := "qxb6602314amods", sum := "512e6eb8c927a734513849f39def5ceaa96ac8df618ed1b8b18f029208563722", func := "example.com/isthmus/isthmus/zzlaws_pkg_topology_b1.FnAgreeingMatchesSortedModel", spec := "fnAgreeingMatchesSortedModel", recurses := true, make := .lifted ["publicsums"], apart := false }
def FnAgreeingMatchesSortedModelSaid : Prop := fnAgreeingMatchesSortedModelRow.holds Trym.pinned (OpenSpec.ofChange fnAgreeingMatchesSortedModelSpec)

/-- ITS FALSE NEIGHBOUR: 'it returns false'. Refute it at one input. -/
def fnAgreeingMatchesSortedModelWrong : ChangeSpec := { name := "fnAgreeingMatchesSortedModel", fn := fun _ => fun
  | [d] => { results := [.lit (.bool false)], args := [d] }
  | _ => none }
def FnAgreeingMatchesSortedModelWrongFalsely : Prop := fnAgreeingMatchesSortedModelRow.holds Trym.pinned (OpenSpec.ofChange fnAgreeingMatchesSortedModelWrong)

/-- 'zzlaws_pkg_topology_b1.FnAgreeingIgnoresOrderOfDatabases': WHATEVER THE INPUT: true; the input reads as it did. -/
def fnAgreeingIgnoresOrderOfDatabasesSpec : ChangeSpec := { name := "fnAgreeingIgnoresOrderOfDatabases", fn := fun _ => fun
  | [d] => { results := [.lit (.bool true)], args := [d] }
  | _ => none }
def fnAgreeingIgnoresOrderOfDatabasesRow : OpenClaim := { program := "qxb6602314amods", sum := "512e6eb8c927a734513849f39def5ceaa96ac8df618ed1b8b18f029208563722", func := "example.com/isthmus/isthmus/zzlaws_pkg_topology_b1.FnAgreeingIgnoresOrderOfDatabases", spec := "fnAgreeingIgnoresOrderOfDatabases", make := .lifted ["publicsums"], apart := false }
def FnAgreeingIgnoresOrderOfDatabasesSaid : Prop := fnAgreeingIgnoresOrderOfDatabasesRow.holds Trym.pinned (OpenSpec.ofChange fnAgreeingIgnoresOrderOfDatabasesSpec)

/-- ITS FALSE NEIGHBOUR: 'it returns false'. Refute it at one input. -/
def fnAgreeingIgnoresOrderOfDatabasesWrong : ChangeSpec := { name := "fnAgreeingIgnoresOrderOfDatabases", fn := fun _ => fun
  | [d] => { results := [.lit (.bool false)], args := [d] }
  | _ => none }
def FnAgreeingIgnoresOrderOfDatabasesWrongFalsely : Prop := fnAgreeingIgnoresOrderOfDatabasesRow.holds Trym.pinned (OpenSpec.ofChange fnAgreeingIgnoresOrderOfDatabasesWrong)

/-- 'zzlaws_pkg_topology_b1.FnClosureMatchesReachability': WHATEVER THE INPUT: true; the input reads as it did. -/
def fnClosureMatchesReachabilitySpec : ChangeSpec := { name := "fnClosureMatchesReachability", fn := fun _ => fun
  | [d1, d2] => { results := [.lit (.bool true)], args := [d1, d2] }
  | _ => none }
def fnClosureMatchesReachabilityRow : OpenClaim := { program := "qxb6602314amods", sum := "512e6eb8c927a734513849f39def5ceaa96ac8df618ed1b8b18f029208563722", func := "example.com/isthmus/isthmus/zzlaws_pkg_topology_b1.FnClosureMatchesReachability", spec := "fnClosureMatchesReachability", recurses := true, make := .lifted ["publicsums"], apart := false }
def FnClosureMatchesReachabilitySaid : Prop := fnClosureMatchesReachabilityRow.holds Trym.pinned (OpenSpec.ofChange fnClosureMatchesReachabilitySpec)

/-- ITS FALSE NEIGHBOUR: 'it returns false'. Refute it at one input. -/
def fnClosureMatchesReachabilityWrong : ChangeSpec := { name := "fnClosureMatchesReachability", fn := fun _ => fun
  | [d1, d2] => { results := [.lit (.bool false)], args := [d1, d2] }
  | _ => none }
def FnClosureMatchesReachabilityWrongFalsely : Prop := fnClosureMatchesReachabilityRow.holds Trym.pinned (OpenSpec.ofChange fnClosureMatchesReachabilityWrong)

/-- 'zzlaws_pkg_topology_b1.FnClosureIsIdempotent': WHATEVER THE INPUT: true; the input reads as it did. -/
def fnClosureIsIdempotentSpec : ChangeSpec := { name := "fnClosureIsIdempotent", fn := fun _ => fun
  | [d1, d2] => { results := [.lit (.bool true)], args := [d1, d2] }
  | _ => none }
def fnClosureIsIdempotentRow : OpenClaim := { program := "qxb6602314amods", sum := "512e6eb8c927a734513849f39def5ceaa96ac8df618ed1b8b18f029208563722", func := "example.com/isthmus/isthmus/zzlaws_pkg_topology_b1.FnClosureIsIdempotent", spec := "fnClosureIsIdempotent", recurses := true, make := .lifted ["publicsums"], apart := false }
def FnClosureIsIdempotentSaid : Prop := fnClosureIsIdempotentRow.holds Trym.pinned (OpenSpec.ofChange fnClosureIsIdempotentSpec)

/-- ITS FALSE NEIGHBOUR: 'it returns false'. Refute it at one input. -/
def fnClosureIsIdempotentWrong : ChangeSpec := { name := "fnClosureIsIdempotent", fn := fun _ => fun
  | [d1, d2] => { results := [.lit (.bool false)], args := [d1, d2] }
  | _ => none }
def FnClosureIsIdempotentWrongFalsely : Prop := fnClosureIsIdempotentRow.holds Trym.pinned (OpenSpec.ofChange fnClosureIsIdempotentWrong)

end Rows
end Go.Proofs.Qxb6602314aMods
