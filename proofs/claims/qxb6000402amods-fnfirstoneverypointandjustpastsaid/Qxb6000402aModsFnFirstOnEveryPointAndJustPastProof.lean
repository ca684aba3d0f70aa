import Derived.Test.Qxb6000402aModsLawG
import Derived.WalkKit
import Derived.ProofKit
import Derived.OpenShut
import Derived.ShutString
import Derived.ChangeOld
import Derived.Below
import Derived.SliceStrings
namespace Go.Proofs.Qxb6000402aMods.fnFirstOnEveryPointAndJustPast
open Go.ChangeShapes Go.WideShapes Go.ChangeAt Go.RowKit
open Go.ChangeMaps (open_string shut_string)
set_option linter.unusedVariables false

theorem own : ownKnob Trym.prog.godebug = none := by kernel_rfl
theorem laidOut : laidOutB Trym.prog = true := by kernel_rfl

/-- The names, as the walk wants them. -/
theorem names_of {w : World} {a : Option Addr} {len cap : Nat} {H : Type} {enc : TypeId × Value → H} {base : Nat} {sp : Nat → Bool} {held : Bool} {fuel : Nat} {x : DataW H × List MemPlace} (h : DataW.trod enc Trym.prog w base sp held fuel 22 (Value.slice a len cap).cells.toList = some x) (hsp : ∀ b, sp b = true) :
    ∃ f : Nat → ByteArray, Hid (NmsIn w a len f) ∧ Hid (a = none → len = 0 ∧ cap = 0) ∧ Hid (∀ j, j < len → (f j).size ≤ 9223372036854775807) ∧ len ≤ 9223372036854775807 := by
  rcases open_strings Trym.underlying22 Trym.underlying9 (by kernel_rfl) h with ⟨hcs, _⟩ | ⟨y, l, c, ss, hcs, _, hl, hm, hz, _, hcell, hws⟩
  · simp [Value.cells] at hcs
    obtain ⟨rfl, rfl, rfl⟩ := hcs
    exact ⟨fun _ => ByteArray.empty, (fun h0 => by omega), (fun _ => ⟨rfl, rfl⟩), (fun j hj => by omega), by omega⟩
  · simp [Value.cells] at hcs
    obtain ⟨rfl, rfl, rfl⟩ := hcs
    rw [if_pos (hsp _)] at hz
    unfold maxLen at hm hws
    refine ⟨fun i => ss.getD i ByteArray.empty, (fun h0 => ?_), (fun h => by cases h), (fun j hj => ?_), by omega⟩
    · obtain ⟨b, off, spot⟩ := y
      have hspot : spot = none := by simpa [Addr.add] using World.cell?_spot (hcell 0 (by omega))
      subst hspot
      have hb := block_lt_of_cell (hcell 0 (by omega))
      refine ⟨b, off, rfl, by simpa [Addr.add] using hb, fun j hj => ?_⟩
      have := hcell j (by omega)
      rw [add_plain] at this
      exact this
    · have hj2 : j < ss.length := by omega
      have : ss.getD j ByteArray.empty = ss[j] := by simp [List.getD, hj2]
      show (ss.getD j ByteArray.empty).size ≤ 9223372036854775807
      rw [this]
      have := hws _ (List.getElem_mem hj2)
      omega
/-- The points, as the walk wants them. -/
theorem points_of {w : World} {a : Option Addr} {len cap : Nat} {H : Type} {enc : TypeId × Value → H} {base : Nat} {sp : Nat → Bool} {held : Bool} {fuel : Nat} {x : DataW H × List MemPlace} (h : DataW.trod enc Trym.prog w base sp held fuel 23 (Value.slice a len cap).cells.toList = some x) (hsp : ∀ b, sp b = true) :
    ∃ pts : List Int, Hid (PtsIn w a len pts) ∧ Hid (a = none → len = 0 ∧ cap = 0) ∧ Hid (pts.length = len) ∧ Hid (∀ p ∈ pts, 0 ≤ p ∧ p < 18446744073709551616) ∧ len ≤ 9223372036854775807 := by
  rcases open_ints Trym.underlying23 Trym.underlying37 (by kernel_rfl) h with ⟨hcs, _⟩ | ⟨y, l, c, zs, hcs, _, hl, hm, hz, _, hcell, hwz⟩
  · simp [Value.cells] at hcs
    obtain ⟨rfl, rfl, rfl⟩ := hcs
    exact ⟨[], (fun h0 => by omega), (fun _ => ⟨rfl, rfl⟩), (by show _ = _; rfl), (by intro p hp; simp at hp), by omega⟩
  · simp [Value.cells] at hcs
    obtain ⟨rfl, rfl, rfl⟩ := hcs
    rw [if_pos (hsp _)] at hz
    unfold maxLen at hm
    refine ⟨zs.take len, (fun h0 => ?_), (fun h => by cases h), (by show _ = _; rw [List.length_take]; omega), (fun p hp => ?_), by omega⟩
    · obtain ⟨b, off, spot⟩ := y
      have hspot : spot = none := by simpa [Addr.add] using World.cell?_spot (hcell 0 (by omega))
      subst hspot
      have hb := block_lt_of_cell (hcell 0 (by omega))
      refine ⟨b, off, rfl, by simpa [Addr.add] using hb, fun j hj => ?_⟩
      have := hcell j (by omega)
      rw [add_plain] at this
      rw [this]
      simp [hj]
    · have := bounds_u64 (hwz p (List.mem_of_mem_take hp))
      omega

set_option maxRecDepth 100000 in
theorem lifted (os : Os) (started : os.Started) (H : Type) (enc : TypeId × Value → H) :
    ReturnsInHanded {} Trym.checked os 7 .any (Rows.fnFirstOnEveryPointAndJustPastSpec.pre6 enc Trym.prog Trym.f7 Rows.fnFirstOnEveryPointAndJustPastRow.domain false) (Rows.fnFirstOnEveryPointAndJustPastSpec.post enc Trym.prog Trym.f7 false true false false) := by
  refine returnsInHanded_of_change (C := Trym.checked) own started (by kernel_rfl) Trym.func7
    (ChangeSpec.witness6 (enc := enc) (C := Trym.checked) false ⟨#[], #[.slice none 0 0, .slice none 0 0], []⟩ 8 (by kernel_rfl) (by kernel_rfl) (by kernel_rfl) (by kernel_rfl)) ?_
  intro W base args ds gs before hval0 hW hcnd _
  have hval : ∀ (j : Nat) t v, Trym.f7.params[j]? = some t → args[j]? = some v → Value.okWide Trym.prog W .any base t v := hval0
  have hW' := hW
  obtain ⟨p, q, hA0, hV, rfl, hfz, hnd⟩ := hW
  have hA : DataW.TrodAll enc Trym.prog W 0 (fun _ => true) true Trym.f7.params.toList args.toList ds p := hA0
  rw [Trym.params7] at hA hval
  obtain ⟨v0, vs0, d0, ds0, p0, q0, hargs, rfl, rfl, h0, r0⟩ := trodAll_cons hA
  obtain ⟨v1, vs1, d1, ds1, p1, q1, rfl, rfl, rfl, h1, r1⟩ := trodAll_cons r0
  obtain ⟨rfl, rfl, rfl⟩ := trodAll_nil r1
  obtain rfl : args = #[v0, v1] := by cases args; simp_all
  obtain ⟨rfl, rfl⟩ := trodVars_none hV
  obtain ⟨a0, len0, cap0, rfl⟩ := okWide_slice Trym.underlying22 (hval 0 22 v0 rfl rfl)
  have k0 := h0
  have lt0 : ∀ x ∈ p0, x.block < W.heap.size := by obtain ⟨m, hm⟩ := k0; exact DataW.trod_lt m _ _ _ hm
  obtain ⟨a1, len1, cap1, rfl⟩ := okWide_slice Trym.underlying23 (hval 1 23 v1 rfl rfl)
  have k1 := h1
  have lt1 : ∀ x ∈ p1, x.block < W.heap.size := by obtain ⟨m, hm⟩ := k1; exact DataW.trod_lt m _ _ _ hm
  obtain ⟨f, hf1, hf2, hf3, hf4⟩ : ∃ f : Nat → ByteArray, Hid (NmsIn W a0 len0 f) ∧ Hid (a0 = none → len0 = 0 ∧ cap0 = 0) ∧ Hid (∀ j, j < len0 → (f j).size ≤ 9223372036854775807) ∧ len0 ≤ 9223372036854775807 := by
    obtain ⟨fuel, hf⟩ := h0
    exact names_of hf (fun _ => rfl)
  obtain ⟨pts, hp1, hp2, hp3, hp4, hp5⟩ : ∃ pts : List Int, Hid (PtsIn W a1 len1 pts) ∧ Hid (a1 = none → len1 = 0 ∧ cap1 = 0) ∧ Hid (pts.length = len1) ∧ Hid (∀ p ∈ pts, 0 ≤ p ∧ p < 18446744073709551616) ∧ len1 ≤ 9223372036854775807 := by
    obtain ⟨fuel, hf⟩ := h1
    exact points_of hf (fun _ => rfl)
  clear hA0 hval0
  refine (past_walk a0 a1 len0 cap0 len1 cap1 f pts W hf4 hp5 hf1 hp1 hf2 hp2 hf3 hp3 hp4).mono fun e W' ⟨he, bel⟩ => ?_
  subst he
  exact ⟨_, rfl, _, _, _, [], _, [], hW', trodAll_mk1 (shut_bool Trym.underlying4 _), (trodAll_cons_mk (Below.trod laidOut (by kernel_rfl) (of_decide_eq_true (by kernel_rfl)) k0 bel lt0) (trodAll_cons_mk (Below.trod laidOut (by kernel_rfl) (of_decide_eq_true (by kernel_rfl)) k1 bel lt1) trodAll_mk0)), rfl, bel.frame _, fun h => by cases h⟩

theorem over : Rows.fnFirstOnEveryPointAndJustPastRow.holds Trym.pinned (OpenSpec.ofChange Rows.fnFirstOnEveryPointAndJustPastSpec) :=
  OpenClaim.holds_of_wide 7 Trym.f7 rfl rfl rfl rfl rfl rfl rfl ⟨rfl, rfl, rfl, rfl, rfl⟩ rfl rfl rfl rfl rfl (by kernel_rfl) Trym.func7 (by kernel_rfl)
    (of_decide_eq_true (by kernel_rfl)) (by unfold Func.isWrapper; first | (rw [if_pos (by decide +kernel)]; kernel_rfl) | (rw [if_neg (by decide +kernel)]; exact ⟨rfl, rfl⟩))
    (fun os started H enc _ => lifted os started H enc)

theorem proved : Rows.FnFirstOnEveryPointAndJustPastSaid := over
#print axioms proved
end Go.Proofs.Qxb6000402aMods.fnFirstOnEveryPointAndJustPast
