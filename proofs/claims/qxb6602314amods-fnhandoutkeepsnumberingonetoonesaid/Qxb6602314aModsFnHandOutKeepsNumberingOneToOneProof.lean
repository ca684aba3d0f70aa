import Derived.Test.Qxb6602314aModsLaw
import Derived.WalkKit
import Derived.ProofKit
import Derived.OpenShut
import Derived.ShutString
import Derived.ChangeOld
import Derived.Below
import Derived.SliceStrings
import Derived.Deep.SlicePairs
namespace Go.Proofs.Qxb6602314aMods.fnHandOutKeepsNumberingOneToOne
open Go.ChangeShapes Go.WideShapes Go.ChangeAt Go.RowKit
open Go.ChangeMaps (open_string shut_string)
set_option linter.unusedVariables false

theorem own : ownKnob Trym.prog.godebug = none := by kernel_rfl
theorem laidOut : laidOutB Trym.prog = true := by kernel_rfl

/-- The names, as the walk wants them. -/
theorem names_of {w : World} {a : Option Addr} {len cap : Nat} {H : Type} {enc : TypeId × Value → H} {base : Nat} {sp : Nat → Bool} {held : Bool} {fuel : Nat} {x : DataW H × List MemPlace} (h : DataW.trod enc Trym.prog w base sp held fuel 23 (Value.slice a len cap).cells.toList = some x) (hsp : ∀ b, sp b = true) :
    ∃ f : Nat → ByteArray, Hid (NmsIn w a len f) ∧ Hid (a = none → len = 0 ∧ cap = 0) ∧ Hid (∀ j, j < len → (f j).size ≤ 9223372036854775807) ∧ len ≤ 9223372036854775807 := by
  rcases open_strings Trym.underlying23 Trym.underlying9 (by kernel_rfl) h with ⟨hcs, _⟩ | ⟨y, l, c, ss, hcs, _, hl, hm, hz, _, hcell, hws⟩
  · simp [Value.cells] at hcs
    obtain ⟨rfl, rfl, rfl⟩ := hcs
    exact ⟨fun _ => ByteArray.empty, (fun h0 => by omega), (fun _ => ⟨rfl, rfl⟩), (fun j hj => by omega), by omega⟩
  · simp [Value.cells] at hcs
    obtain ⟨rfl, rfl, rfl⟩ := hcs
    rw [if_pos (hsp _)] at hz
    unfold maxLen at hm hws
    refine ⟨fun i => ss.getD i ByteArray.empty, (fun h0 => ?_), (fun h => by cases h), (fun j hj => ?_), by omega⟩
    · obtain ⟨b, off, spot⟩ := y
      have hspot : spot = none := by simpa [Addr.add] using World.cell?_spot (hcell 0 (by omega))
      subst hspot
      have hb := block_lt_of_cell (hcell 0 (by omega))
      refine ⟨b, off, rfl, by simpa [Addr.add] using hb, fun j hj => ?_⟩
      have := hcell j (by omega)
      rw [addr_add] at this
      exact this
    · have hj2 : j < ss.length := by omega
      have : ss.getD j ByteArray.empty = ss[j] := by simp [List.getD, hj2]
      show (ss.getD j ByteArray.empty).size ≤ 9223372036854775807
      rw [this]
      have := hws _ (List.getElem_mem hj2)
      omega
def strOf : Value → ByteArray
  | .string s => s
  | _ => ByteArray.empty
/-- The entries, as the walk wants them. -/
theorem entries_of {w : World} {a : Option Addr} {len cap : Nat} {H : Type} {enc : TypeId × Value → H} {base : Nat} {sp : Nat → Bool} {held : Bool} {fuel : Nat} {x : DataW H × List MemPlace} (h : DataW.trod enc Trym.prog w base sp held fuel 22 (Value.slice a len cap).cells.toList = some x) (hsp : ∀ b, sp b = true) :
    ∃ (ks : Nat → ByteArray) (ns : Nat → Int), Hid (GotIn w a len ks ns) ∧ Hid (∀ j, j < len → (ks j).size ≤ 9223372036854775807) ∧ Hid (∀ j, j < len → (Lit.int .i64 (ns j)).wf = true) ∧ len ≤ 9223372036854775807 := by
  rcases Go.Deep.open_slice_pairs Trym.underlying22 Trym.underlying32 (by kernel_rfl) rfl rfl (by kernel_rfl) (by kernel_rfl) h with ⟨hcs, _⟩ | ⟨y, l, c, m, n, V0, V1, D0, D1, P0, P1, hcs, _, hl, hm, hz, _, hcell⟩
  · simp [Value.cells] at hcs
    obtain ⟨rfl, rfl, rfl⟩ := hcs
    exact ⟨fun _ => ByteArray.empty, fun _ => 0, (fun h0 => by omega), (fun j hj => by omega), (fun j hj => by omega), by omega⟩
  · simp [Value.cells] at hcs
    obtain ⟨rfl, rfl, rfl⟩ := hcs
    rw [if_pos (hsp _)] at hz
    unfold maxLen at hm
    have key : ∀ i, i < len → V0 i = .string (strOf (V0 i)) ∧ (strOf (V0 i)).size ≤ maxLen := by
      intro i hi
      obtain ⟨s, h1, _, h2⟩ := DataW.trod_string Trym.underlying9 (hcell i (by omega)).2.2.1
      injection h1 with h1 _
      rw [h1]
      exact ⟨rfl, h2⟩
    have num : ∀ i, i < len → V1 i = .int .i64 (intOf (V1 i)) ∧ (Lit.int .i64 (intOf (V1 i))).wf = true := by
      intro i hi
      obtain ⟨s, h1, _, h2⟩ := DataW.trod_int Trym.underlying3 (hcell i (by omega)).2.2.2
      injection h1 with h1 _
      rw [h1]
      exact ⟨rfl, h2⟩
    refine ⟨fun i => strOf (V0 i), fun i => intOf (V1 i), (fun h0 => ?_), (fun j hj => by have := (key j hj).2; unfold maxLen at this; omega), (fun j hj => (num j hj).2), by omega⟩
    obtain ⟨b, off, spot⟩ := y
    have h00 := (hcell 0 (by omega)).1
    have hspot : spot = none := by simpa [Addr.add] using World.cell?_spot h00
    subst hspot
    have hb := block_lt_of_cell h00
    refine ⟨b, off, rfl, by simpa [Addr.add] using hb, fun j hj => ?_, fun j hj => ?_⟩
    · have := (hcell j (by omega)).1
      rw [addr_add, (key j hj).1] at this
      exact this
    · have := (hcell j (by omega)).2.1
      rw [addr_add, (num j hj).1] at this
      exact this

set_option maxRecDepth 100000 in
theorem lifted (os : Os) (started : os.Started) (H : Type) (enc : TypeId × Value → H) :
    ReturnsInHanded {} Trym.checked os 4 .any (Rows.fnHandOutKeepsNumberingOneToOneSpec.pre6 enc Trym.prog Trym.f4 Rows.fnHandOutKeepsNumberingOneToOneRow.domain false) (Rows.fnHandOutKeepsNumberingOneToOneSpec.post enc Trym.prog Trym.f4 false true false false) := by
  refine returnsInHanded_of_change (C := Trym.checked) own started (by kernel_rfl) Trym.func4
    (ChangeSpec.witness6 (enc := enc) (C := Trym.checked) false ⟨#[], #[.slice none 0 0, .slice none 0 0, .int .i64 0, .int .i64 0], []⟩ 8 (by kernel_rfl) (by kernel_rfl) (by kernel_rfl) (by kernel_rfl)) ?_
  intro W base args ds gs before hval0 hW hcnd _
  have hval : ∀ (j : Nat) t v, Trym.f4.params[j]? = some t → args[j]? = some v → Value.okWide Trym.prog W .any base t v := hval0
  have hW' := hW
  obtain ⟨p, q, hA0, hV, rfl, hfz, hnd⟩ := hW
  have hA : DataW.TrodAll enc Trym.prog W 0 (fun _ => true) true Trym.f4.params.toList args.toList ds p := hA0
  rw [Trym.params4] at hA hval
  obtain ⟨v0, vs0, d0, ds0, p0, q0, hargs, rfl, rfl, h0, r0⟩ := trodAll_cons hA
  obtain ⟨v1, vs1, d1, ds1, p1, q1, rfl, rfl, rfl, h1, r1⟩ := trodAll_cons r0
  obtain ⟨v2, vs2, d2, ds2, p2, q2, rfl, rfl, rfl, h2, r2⟩ := trodAll_cons r1
  obtain ⟨v3, vs3, d3, ds3, p3, q3, rfl, rfl, rfl, h3, r3⟩ := trodAll_cons r2
  obtain ⟨rfl, rfl, rfl⟩ := trodAll_nil r3
  obtain rfl : args = #[v0, v1, v2, v3] := by cases args; simp_all
  obtain ⟨rfl, rfl⟩ := trodVars_none hV
  obtain ⟨a0, len0, cap0, rfl⟩ := okWide_slice Trym.underlying22 (hval 0 22 v0 rfl rfl)
  have k0 := h0
  have lt0 : ∀ x ∈ p0, x.block < W.heap.size := by obtain ⟨m, hm⟩ := k0; exact DataW.trod_lt m _ _ _ hm
  obtain ⟨a1, len1, cap1, rfl⟩ := okWide_slice Trym.underlying23 (hval 1 23 v1 rfl rfl)
  have k1 := h1
  have lt1 : ∀ x ∈ p1, x.block < W.heap.size := by obtain ⟨m, hm⟩ := k1; exact DataW.trod_lt m _ _ _ hm
  obtain ⟨ks, ns, hg1, hg2, hg3, hg4⟩ : ∃ (ks : Nat → ByteArray) (ns : Nat → Int), Hid (GotIn W a0 len0 ks ns) ∧ Hid (∀ j, j < len0 → (ks j).size ≤ 9223372036854775807) ∧ Hid (∀ j, j < len0 → (Lit.int .i64 (ns j)).wf = true) ∧ len0 ≤ 9223372036854775807 := by
    obtain ⟨fuel, hf⟩ := h0
    exact entries_of hf (fun _ => rfl)
  obtain ⟨f, hf1, hf2, hf3, hf4⟩ : ∃ f : Nat → ByteArray, Hid (NmsIn W a1 len1 f) ∧ Hid (a1 = none → len1 = 0 ∧ cap1 = 0) ∧ Hid (∀ j, j < len1 → (f j).size ≤ 9223372036854775807) ∧ len1 ≤ 9223372036854775807 := by
    obtain ⟨fuel, hf⟩ := h1
    exact names_of hf (fun _ => rfl)
  obtain ⟨a2, rfl, rfl, rfl, w2⟩ := open_int Trym.underlying3 (hval 2 3 v2 rfl rfl) h2
  obtain ⟨a3, rfl, rfl, rfl, w3⟩ := open_int Trym.underlying3 (hval 3 3 v3 rfl rfl) h3
  clear hA0 hval0
  refine (law_walk a0 a1 len0 cap0 len1 cap1 ks ns f a2 a3 W hg4 hf4 hg1 hf1 hf2 hg2 hf3 hg3 w2 w3).mono fun e W' ⟨he, bel⟩ => ?_
  subst he
  exact ⟨_, rfl, _, _, _, [], _, [], hW', trodAll_mk1 (shut_bool Trym.underlying4 _), (trodAll_cons_mk (Below.trod laidOut (by kernel_rfl) (of_decide_eq_true (by kernel_rfl)) k0 bel lt0) (trodAll_cons_mk (Below.trod laidOut (by kernel_rfl) (of_decide_eq_true (by kernel_rfl)) k1 bel lt1) (trodAll_cons_mk (shut_int Trym.underlying3 w2) (trodAll_cons_mk (shut_int Trym.underlying3 w3) trodAll_mk0)))), rfl, bel.frame _, fun h => by cases h⟩

theorem over : Rows.fnHandOutKeepsNumberingOneToOneRow.holds Trym.pinned (OpenSpec.ofChange Rows.fnHandOutKeepsNumberingOneToOneSpec) :=
  OpenClaim.holds_of_wide 4 Trym.f4 rfl rfl rfl rfl rfl rfl rfl ⟨rfl, rfl, rfl, rfl, rfl⟩ rfl rfl rfl rfl rfl (by kernel_rfl) Trym.func4 (by kernel_rfl)
    (of_decide_eq_true (by kernel_rfl)) (by unfold Func.isWrapper; first | (rw [if_pos (by decide +kernel)]; kernel_rfl) | (rw [if_neg (by decide +kernel)]; exact ⟨rfl, rfl⟩))
    (fun os started H enc _ => lifted os started H enc)

theorem proved : Rows.FnHandOutKeepsNumberingOneToOneSaid := over
#print axioms proved
end Go.Proofs.Qxb6602314aMods.fnHandOutKeepsNumberingOneToOne
