import Derived.Test.Qxb6602314aModsRows
import Derived.WalkKit
import Derived.WalkSpells
import Derived.WalkLawsBesides
import Derived.BigQuiet
import Derived.BigRegion
import Derived.Deep.QuietTactic
import Derived.Deep.RegionHeld3
import Derived.Deep.DeepCutAuto
import Derived.Maps.RangeWalk
import Derived.Maps.Ext
namespace Go.Proofs.Qxb6602314aMods
open Go.RowKit Go.Maps
set_option linter.unusedVariables false

/-- A datum: a map seen as a function. -/
def Rd (D : DataW Unit) (f : Lit → Option Lit) : Prop :=
  (∀ k, Maps.has D k = (f k).isSome) ∧ ∀ k v, f k = some v → ∀ z, D.atKey k z = .lit v

theorem rd_none {D : DataW Unit} {f : Lit → Option Lit} (h : Rd D f) {k : Lit} (hk : f k = none) (z : DataW Unit) : D.atKey k z = z :=
  Maps.atKey_of_not_has (by rw [h.1, hk]; rfl) z
theorem rd_empty : Rd (.map []) (fun _ => none) := ⟨fun _ => rfl, fun _ _ h => by cases h⟩
open Classical in
/-- The function, changed at one key. -/
noncomputable def fput (f : Lit → Option Lit) (k v : Lit) : Lit → Option Lit := fun k' => if k' = k then some v else f k'
theorem rd_put {D : DataW Unit} {f : Lit → Option Lit} (h : Rd D f) (hm : IsMap D) {k : Lit} (hk : WideAt.IsKeyLit k) (v : Lit) : Rd (D.put k (.lit v)) (fput f k v) := by
  constructor
  · intro k'
    unfold fput
    by_cases e : k' = k
    · subst e; rw [if_pos rfl, Maps.has_put_same hm hk]; rfl
    · rw [if_neg e, Maps.has_put_other e]; exact h.1 k'
  · intro k' v' hv z
    unfold fput at hv
    by_cases e : k' = k
    · subst e
      rw [if_pos rfl] at hv
      cases hv
      exact Maps.atKey_put_same hm hk _ _
    · rw [if_neg e] at hv
      rw [Maps.atKey_put_other e]
      exact h.2 k' v' hv z
/-- Two maps of one view are one. -/
theorem rd_one {D D' : DataW Unit} {f : Lit → Option Lit} (h : Rd D f) (h' : Rd D' f) (c : Canon D) (c' : Canon D') : D = D' :=
  Maps.ext c c' (fun k => by rw [h.1, h'.1]) (fun k z hk => by
    rw [h.1] at hk
    obtain ⟨v, hv⟩ := Option.isSome_iff_exists.1 hk
    rw [h.2 k v hv, h'.2 k v hv])

theorem lawS : Keyed Trym.prog 9 := string_keyed Trym.underlying9
theorem lawI : Keyed Trym.prog 3 := int_keyed Trym.underlying3
theorem zero3 (w : World) : (zeroValue 3).run Trym.prog w = .ok (.int .i64 0) w := by kernel_rfl
theorem zero4 (w : World) : (zeroValue 4).run Trym.prog w = .ok (.bool false) w := by kernel_rfl
theorem zero9 (w : World) : (zeroValue 9).run Trym.prog w = .ok (.string ByteArray.empty) w := by kernel_rfl

/-- Block B is a map, at most n entries, that reads as f. -/
def MapAt (w : World) (K E : TypeId) (B n : Nat) (f : Lit → Option Lit) : Prop := ∃ D : DataW Unit, w.ownsMap Trym.prog K (plainElem Trym.prog E) B n D ∧ Rd D f

end Go.Proofs.Qxb6602314aMods
