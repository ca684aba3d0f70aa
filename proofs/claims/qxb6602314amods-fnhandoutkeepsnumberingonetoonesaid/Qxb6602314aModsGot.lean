import Derived.Test.Qxb6602314aModsSeen
namespace Go.Proofs.Qxb6602314aMods
open Go.RowKit Go.Maps
set_option linter.unusedVariables false

theorem run_makeMap_hint {t K E : TypeId} (ht : Trym.prog.underlying t = some (.map K E)) (n : Int) (w : World) : (Instr.makeMap t (some (.int .i64 n))).run Trym.prog w = .ok (.map (some w.heap.size)) (w.alloc (.map #[] 0)) := by
  simp [Instr.makeMap, run_underlying ht, asInt, asIntOf, newObj, Result.andThen]
  rfl

/-- What topoB1BuildGot lays. -/
noncomputable def bg (ks : Nat → ByteArray) (ns : Nat → Int) : Nat → ByteArray → Option Int
  | 0 => fun _ => none
  | i + 1 => upd (bg ks ns i) (ks i) (ns i)

set_option maxHeartbeats 2000000 in
theorem build_any (a : Option Addr) (n c : Nat) (ks : Nat → ByteArray) (ns : Nat → Int) (w : World) (hn : n ≤ 1048576) (h : Hid (GotIn w a n ks ns)) (hs : Hid (∀ j, j < n → (ks j).size ≤ 1048576)) (hw : Hid (∀ j, j < n → (Lit.int .i64 (ns j)).wf = true)) :
    Calls Trym.prog 12 #[.slice a n c] w fun e w' => e = .returned (.map (some w.heap.size)) ∧ Hid (SI w' w.heap.size n (bg ks ns n)) ∧ Keeps [] w w' := by
  have hmm := fun (n : Int) (w : World) => run_makeMap_hint Trym.underlying27 n w
  go_enter Trym.func12, Trym.ntmps12
  go_wp2_with fail
  go_loopw [4] (fun iv wr => ∃ i : Nat, iv = .int .i64 i ∧ i ≤ n ∧ SI wr w.heap.size i (bg ks ns i) ∧ Keeps [] w wr) (fun iv _ => n - (intOf iv).toNat)
  case atStart => exact ⟨0, rfl, by omega, SI.made w, (Keeps.refl _ _).alloc _⟩
  case round =>
    obtain ⟨i, rfl, hi, hm, hk⟩ := hrel
    by_cases hlt : i < n
    · obtain ⟨b, off, hx, hb, hc, hd⟩ := h.out (by omega)
      subst hx
      have hcs : wr.cell? ⟨b, off + i * 2, none⟩ = some (.string (ks i)) := (World.cell?_of_block (a := ⟨b, off + i * 2, none⟩) (hk.block b hb (by simp))).trans (hc i hlt)
      have hcn : wr.cell? ⟨b, off + i * 2 + 1, none⟩ = some (.int .i64 (ns i)) := (World.cell?_of_block (a := ⟨b, off + i * 2 + 1, none⟩) (hk.block b hb (by simp))).trans (hd i hlt)
      have hsz := hs.out i hlt
      obtain ⟨w', hrun, hm1, hgr⟩ := SI.store (w := wr.drew) (MapAt.drew hm) (by unfold maxLen; omega) (s := ks i) (by unfold maxLen; omega) (hw.out i hlt)
      have hm2 : SI w' w.heap.size (i + 1) (bg ks ns (i + 1)) := hm1
      have hk1 := hk.drew.grown hgr (by intro j hj; cases hj; exact .inl (Nat.le_refl _))
      generalize ks i = y at hcs hrun
      generalize ns i = z at hcn hrun
      clear hc hd hm1 hsz
      go_wp2_with fail
      go_region
      all_goals go_wp2_with fail
      all_goals go_roundw
      case rel => exact ⟨i + 1, by go_num, by omega, hm2, hk1⟩
      case measure => simp [intOf]; omega
    · have e : i = n := by omega
      subst e
      have hm1 : Hid (SI wr w.heap.size i (bg ks ns i)) := hm
      go_wp2_with fail
      go_ret
      exact ⟨rfl, hm1, hk⟩
end Go.Proofs.Qxb6602314aMods
