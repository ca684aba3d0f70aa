import Derived.Test.Qxb6606310aModsOnto
import Derived.Test.Qxb6606310aModsPlain3
import Derived.Laws.BitsLemmas
namespace Go.Proofs.Qxb6606310aMods.Onto
open Go.RowKit Plain
set_option linter.unusedVariables false

set_option maxHeartbeats 400000 in
theorem hex_any (v : Int) (w : World) (h0 : 0 ≤ v) (h1 : v ≤ 15) :
    Calls Trym.prog 23 #[.int .u8 v] w fun e w' => ∃ c, e = .returned (.int .u8 c) ∧ w' = w ∧ c ≠ 34 ∧ c ≠ 92 := by
  by_cases h : v < 10
  · go_enter Trym.func23, Trym.ntmps23
    go_wp2
    go_ret
    exact ⟨_, rfl, rfl, by omega, by omega⟩
  · go_enter Trym.func23, Trym.ntmps23
    go_wp2
    go_ret
    exact ⟨_, rfl, rfl, by omega, by omega⟩

/-- A string in quotes. -/
def Quoted (ds : List Int) : Prop := ∀ n : Int, Adv ds n n

set_option maxHeartbeats 400000 in
theorem str_nil (base : Nat) (v : Value) (bs : List Int) (w : World) (hown : Owns base w v bs) (hb : base ≤ w.heap.size) (hN : bs.length ≤ 1073741824) :
    Calls Trym.prog 20 #[v, .slice none 0 0] w fun e w' => ∃ v' ds, e = .returned v' ∧ Grew base w v w' v' (bs ++ ds) ∧ ds.length ≤ 2 ∧ Hid (Quoted ds) := by
  go_enter Trym.func20, Trym.ntmps20
  go_wp2_with (at_builtin; refine app_lit _ rfl (.tmp 7) (.tmp 8) rfl base v bs rfl hown 1 [34] rfl rfl (by omega) hb ?_; intro v1 w1 hg1)
  refine wp_loop_rounds 1 ?_; rw [rounds_succ]
  go_wp2_with (at_builtin; refine app_lit _ rfl (.tmp 45) (.tmp 46) rfl base v1 (bs ++ [34]) rfl hg1.owns 1 [34] rfl rfl (by simp; omega) (Nat.le_trans hb hg1.by_.size) ?_; intro v2 w2 hg2)
  go_ret
  refine ⟨_, [34, 34], rfl, hg1.trans (by simpa using hg2), by simp, fun n => adv_str n strB_nil⟩

set_option maxHeartbeats 1000000 in
theorem str_any (base : Nat) (v : Value) (bs : List Int) (g m cap : Nat) (raw : List Int) (w : World) (hown : Owns base w v bs) (hb : base ≤ w.heap.size) (hN : bs.length ≤ 1073741824)
    (Hm : Hid (raw.length = m)) (hm : m ≤ 1048576) (Hw : Hid (∀ c ∈ raw, 0 ≤ c ∧ c ≤ 255)) (Hc : Hid (∀ j, j < m → w.cell? ⟨g, j, none⟩ = some (.int .u8 (raw.getD j 0)))) (Hap : Hid (v.ownBlock ≠ some g)) :
    Calls Trym.prog 20 #[v, .slice (some ⟨g, 0, none⟩) m cap] w fun e w' => ∃ v' ds, e = .returned v' ∧ Grew base w v w' v' (bs ++ ds) ∧ ds.length ≤ 2 + 6 * m ∧ Hid (Quoted ds) := by
  go_enter Trym.func20, Trym.ntmps20
  go_wp2_with (at_builtin; refine app_lit _ rfl (.tmp 7) (.tmp 8) rfl base v bs rfl hown 1 [34] rfl rfl (by omega) hb ?_; intro v1 w1 hg1)
  go_loopw [0, 5] (fun vr i wr => ∃ (k : Nat) (ds : List Int), i = .int .i64 k ∧ k ≤ m ∧ Grew base w v wr vr (bs ++ (34 :: ds)) ∧ ds.length ≤ 6 * k ∧ Hid (StrB ds)) (fun _ i _ => m - (intOf i).toNat)
  case atStart => exact ⟨0, [], rfl, Nat.zero_le _, hg1, Nat.zero_le _, strB_nil⟩
  case round =>
    obtain ⟨k, ds, rfl, hk, hg, hdl, hds⟩ := hrel
    have hbr : base ≤ wr.heap.size := Nat.le_trans hb hg.by_.size
    by_cases hlt : k < m
    · obtain ⟨c, hc0⟩ : ∃ c, c = raw.getD k 0 := ⟨_, rfl⟩
      have hcr : 0 ≤ c ∧ c ≤ 255 := by
        have hl : k < raw.length := by rw [Hm.out]; exact hlt
        have : raw.getD k 0 = raw[k] := by simp [List.getD, hl]
        rw [hc0, this]
        exact Hw.out _ (List.getElem_mem hl)
      have hcell : wr.cell? ⟨g, k, none⟩ = some (.int .u8 c) := by
        rw [hc0]
        exact hg.by_.cell (Hc.out k hlt) (fun e => Hap.out e.symm)
      obtain ⟨hcr0, hcr1⟩ := hcr
      clear hc0
      by_cases h34 : c = 34
      · subst h34
        clear hcr0 hcr1
        go_wp2_with (at_builtin; refine app_lit _ rfl (.tmp 26) (.tmp 28) rfl base u0 (bs ++ (34 :: ds)) rfl hg.owns 2 [92, 34] rfl rfl (by simp; omega) hbr ?_; intro v2 w2 hg2)
        go_roundw
        case rel => exact ⟨k + 1, ds ++ [92, 34], by go_num, by omega, hg.trans (by simpa using hg2), by simp; omega, strB_app hds.out (strB_esc 34)⟩
        case measure => simp [intOf]; omega
      by_cases h92 : c = 92
      · subst h92
        clear hcr0 hcr1
        go_wp2_with (at_builtin; refine app_lit _ rfl (.tmp 26) (.tmp 28) rfl base u0 (bs ++ (34 :: ds)) rfl hg.owns 2 [92, 92] rfl rfl (by simp; omega) hbr ?_; intro v2 w2 hg2)
        go_roundw
        case rel => exact ⟨k + 1, ds ++ [92, 92], by go_num, by omega, hg.trans (by simpa using hg2), by simp; omega, strB_app hds.out (strB_esc 92)⟩
        case measure => simp [intOf]; omega
      have e34 : (c == 34) = false := by simp [h34]
      have e92 : (c == 92) = false := by simp [h92]
      by_cases h32 : c < 32
      · have hand : bits .and .u8 c 15 = c % 16 := u8_and15 c hcr0 (by omega)
        clear h34 h92
        go_wp2_with fail
        refine (hex_any _ _ (by omega) (by omega)).mono ?_
        rintro e w' ⟨x1, rfl, rfl, hx1, hx2⟩
        go_wp2_with fail
        refine (hex_any _ _ (by omega) (by omega)).mono ?_
        rintro e w' ⟨x2, rfl, rfl, hx3, hx4⟩
        have HX : Hid (x1 ≠ 34 ∧ x1 ≠ 92 ∧ x2 ≠ 34 ∧ x2 ≠ 92) := ⟨hx1, hx2, hx3, hx4⟩
        clear hx1 hx2 hx3 hx4
        go_wp2_with (at_builtin; refine app_lit _ rfl (.tmp 32) (.tmp 39) rfl base u0 (bs ++ (34 :: ds)) rfl hg.owns 6 [92, 117, 48, 48, x1, x2] rfl rfl (by simp; omega) hbr ?_; intro v2 w2 hg2)
        go_roundw
        case rel => exact ⟨k + 1, ds ++ [92, 117, 48, 48, x1, x2], by go_num, by omega, hg.trans (by simpa using hg2), by simp; omega, strB_app hds.out (strB_hex HX.out.1 HX.out.2.1 HX.out.2.2.1 HX.out.2.2.2)⟩
        case measure => simp [intOf]; omega
      · have H9 : Hid (c ≠ 34 ∧ c ≠ 92) := ⟨h34, h92⟩
        clear h34 h92
        go_wp2_with (at_builtin; refine app_lit _ rfl (.tmp 41) (.tmp 43) rfl base u0 (bs ++ (34 :: ds)) rfl hg.owns 1 [c] rfl rfl (by simp; omega) hbr ?_; intro v2 w2 hg2)
        go_roundw
        case rel => exact ⟨k + 1, ds ++ [c], by go_num, by omega, hg.trans (by simpa using hg2), by simp; omega, strB_app hds.out (strB_one H9.out.1 H9.out.2)⟩
        case measure => simp [intOf]; omega
    · go_wp2_with (at_builtin; refine app_lit _ rfl (.tmp 45) (.tmp 46) rfl base u0 (bs ++ (34 :: ds)) rfl hg.owns 1 [34] rfl rfl (by simp; omega) hbr ?_; intro v2 w2 hg2)
      go_ret
      refine ⟨_, 34 :: (ds ++ [34]), rfl, hg.trans (by simpa using hg2), by simp; omega, fun n => adv_str n hds.out⟩
end Go.Proofs.Qxb6606310aMods.Onto
