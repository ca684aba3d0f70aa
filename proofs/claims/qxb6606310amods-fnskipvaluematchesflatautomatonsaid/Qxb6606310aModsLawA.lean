import Derived.Test.Qxb6606310aModsWalkC
import Derived.Laws.CopyOwn
namespace Go.Proofs.Qxb6606310aMods.LawA
open Go.RowKit Plain

theorem info5 : (Trym.prog.info? 5).map (fun i => (i.zero, i.size, i.bytes)) = some (some (.int .u8 0), 1, 1) := by kernel_rfl
theorem size5 : (Trym.prog.info? 5).map (·.size) = some 1 := by kernel_rfl

/-- Nothing to hold: the length is too great. -/
theorem walk_long (a0 : Option Addr) (len0 cap0 : Nat) (a1 : Int) (w : World) (hl : 1048576 < len0) (hm : len0 ≤ 9223372036854775807) :
    Calls Trym.prog 3 #[.slice a0 len0 cap0, .int .i64 a1] w fun e w' => e = .returned (.bool true) ∧ Below w.heap.size w w' := by
  go_enter Trym.func3, Trym.ntmps3
  go_wp2
  go_ret
  exact ⟨rfl, Below.refl _ _⟩

theorem walk_neg (a0 : Option Addr) (len0 cap0 : Nat) (a1 : Int) (w : World) (hl : len0 ≤ 1048576) (ha : a1 < 0) :
    Calls Trym.prog 3 #[.slice a0 len0 cap0, .int .i64 a1] w fun e w' => e = .returned (.bool true) ∧ Below w.heap.size w w' := by
  go_enter Trym.func3, Trym.ntmps3
  go_wp2
  go_ret
  exact ⟨rfl, Below.refl _ _⟩

theorem walk_out (a0 : Option Addr) (len0 cap0 : Nat) (a1 : Int) (w : World) (hl : len0 ≤ 1048576) (hz : 0 ≤ a1) (ha : (len0 : Int) < a1) :
    Calls Trym.prog 3 #[.slice a0 len0 cap0, .int .i64 a1] w fun e w' => e = .returned (.bool true) ∧ Below w.heap.size w w' := by
  go_enter Trym.func3, Trym.ntmps3
  go_wp2
  go_ret
  exact ⟨rfl, Below.refl _ _⟩

theorem walk_nil (w : World) :
    Calls Trym.prog 3 #[.slice none 0 0, .int .i64 0] w fun e w' => e = .returned (.bool true) ∧ Below w.heap.size w w' := by
  go_enter Trym.func3, Trym.ntmps3
  go_wp2_with (first | (go_at_call 7; refine (zzSkip_nil _).mono ?_; rintro e w' ⟨rfl, rfl⟩) | (go_at_call 8; refine (Model.model_end none 0 0 _).mono ?_; rintro e w' ⟨rfl, rfl⟩) | (go_at_call 6; go_in))
  go_ret
  exact ⟨rfl, Below.refl _ _⟩

/-- The row that the call has made, as a list of zero bytes. -/
theorem own_row {w : World} {n : Nat} {xs : List Value} {H : Nat} (h : w.ownsRow H 5 1 (.slice (some ⟨H, 0, none⟩) n n) n xs) : xs.length = n ∧ w.heap[H]? = some (.cells xs.toArray 5 (0, 0)) := by
  obtain ⟨hl, h | ⟨g, cap, cur, hv, _, hg, _, _, hs, ht⟩⟩ := h
  · cases h.1
  · simp only [Value.slice.injEq, Option.some.injEq, Addr.mk.injEq, true_and, and_true] at hv
    obtain ⟨rfl, rfl⟩ := hv
    have e : cur.toList = xs := by rw [← ht, List.take_of_length_le (by simp; omega)]
    rw [← e]
    exact ⟨by simp; omega, by simpa using hg⟩

/-- Cell j of a block whose cells are known. -/
theorem cell_of {w : World} {H : Nat} {xs : List Value} {t : TypeId} {j : Nat} {v : Value} (h : w.heap[H]? = some (.cells xs.toArray t (0, 0))) (hj : xs[j]? = some v) : w.cell? ⟨H, j, none⟩ = some v := by
  simp [World.cell?, h, hj]

/-- What the row holds behind the copy, cell by cell. -/
theorem copied {w : World} {H n : Nat} {xs cs : List Value} {d : List Int} (hg : Hid (w.heap[H]? = some (.cells (splice xs 0 cs).toArray 5 (0, 0)))) (hx : xs.length = n) (hcs : cs.length = n) (hd : Hid (cs = d.map (Value.int .u8))) :
    ∀ j, j < n → w.cell? ⟨H, 0 + j, none⟩ = some (.int .u8 (d.getD j 0)) := by
  intro j hj
  have e : splice xs 0 cs = cs := by simp [splice, List.drop_of_length_le (show xs.length ≤ cs.length by omega)]
  have hg' := hg.out
  rw [e] at hg'
  have hd' := hd.out
  have hl : j < d.length := by have := congrArg List.length hd'; simp at this; omega
  rw [Nat.zero_add]
  refine cell_of hg' ?_
  rw [hd']
  simp [hl]

set_option maxHeartbeats 400000 in
theorem walk_in (x : Addr) (len0 cap0 : Nat) (z0 : List Int) (i : Nat) (w : World) (hl : len0 ≤ 1048576) (hi : i ≤ len0) (hcap : len0 ≤ cap0) (hz : z0.length = cap0)
   (hc : ∀ i, i < z0.length → w.cell? (x.add i) = some (.int .u8 (z0.getD i 0))) (hx : 0 < len0 → x.block < w.heap.size) :
    Calls Trym.prog 3 #[.slice (some x) len0 cap0, .int .i64 i] w fun e w' => e = .returned (.bool true) ∧ Below w.heap.size w w' := by
  obtain ⟨i0, hi0, hz0, hz1, hz2⟩ := info_parts info5
  obtain ⟨d, hd⟩ : ∃ d, d = z0.take len0 := ⟨_, rfl⟩
  have hdl : d.length = len0 := by rw [hd, List.length_take]; omega
  obtain ⟨cs, hcs⟩ : ∃ cs, cs = d.map (Value.int .u8) := ⟨_, rfl⟩
  have hone : ∀ u ∈ cs, u.oneCell' = true := by rw [hcs]; exact ints_oneCell _ _
  have hcl : cs.length = len0 := by rw [hcs, List.length_map]; exact hdl
  have Hsrc : Hid (∀ w1, Below w.heap.size w w1 → ∀ j v, cs[j]? = some v → w1.cell? (x.add j) = some v) := by
    intro w1 hb j v hj
    have hjl : j < cs.length := (List.getElem?_eq_some_iff.1 hj).1
    have hx' := hx (by omega)
    rw [hb.cell (p := x.add j) (by unfold Addr.add; split <;> exact hx'), hc j (by omega)]
    rw [hcs, hd] at hj
    rw [hcl] at hjl
    simp [hjl, List.getElem?_eq_getElem (show j < z0.length by omega)] at hj
    rw [← hj]
    simp [List.getElem?_eq_getElem (show j < z0.length by omega)]
  have Hcs : Hid (cs = d.map (Value.int .u8)) := hcs
  have Hdl : Hid (d.length = len0) := hdl
  have Hcl : Hid (cs.length = len0) := hcl
  have Hone : Hid (∀ u ∈ cs, u.oneCell' = true) := hone
  clear hc hz hcs hd hdl hcl hx hone
  go_enter Trym.func3, Trym.ntmps3
  go_wp2_with (first | (at_make; refine wpList_make_full _ rfl _ _ 22 rfl w.heap.size 5 i0 (.int .u8 0) 1 Trym.underlying22 hi0 hz0 hz1 _ _ _ _ len0 rfl rfl rfl rfl (by rw [hz2]; omega) (by unfold maxLen; omega) (Nat.le_refl _) ?_; intro w1 hown hgrow; obtain ⟨hxl, hrow⟩ := own_row hown; generalize (madeCells (Value.int IntKind.u8 0).cells (len0 * 1)).toList = xs at hxl hrow; have hb1 := (Below.refl w.heap.size w).grown hgrow (Nat.le_refl _) (by simp); clear hown hgrow) | (refine wpList_copy_splice rfl (.tmp 26) (.tmp 27) 22 22 rfl 5 Trym.underlying22 size5 _ _ _ _ _ _ rfl rfl w.heap.size 0 xs 5 hrow cs (by rw [Hcl.out]; exact (Nat.min_self _).symm) (fun _ => ⟨rfl, x, rfl, Hsrc.out w1 hb1⟩) (by rw [Hcl.out, hxl]; omega) Hone.out w.heap.size w hb1 (Nat.le_refl _) ?_; intro w2 hG2 hB2; have hcells := copied hG2 hxl Hcl.out Hcs; clear hG2 hrow hb1 Hsrc) | (go_at_call 7; refine (zzSkip_any _ 0 _ i len0 d _ Hdl (by omega) hi hcells).mono ?_; rintro e w' ⟨rfl, rfl⟩) | (go_at_call 8; refine (Model.model_any _ 0 _ i len0 d _ Hdl (by omega) hi hcells).mono ?_; rintro e w' ⟨rfl, rfl⟩) | (go_at_call 6; go_in))
  go_ret
  exact ⟨rfl, hB2⟩

end Go.Proofs.Qxb6606310aMods.LawA
