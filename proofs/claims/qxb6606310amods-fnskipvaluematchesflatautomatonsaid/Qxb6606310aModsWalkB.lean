import Derived.Test.Qxb6606310aModsRows
import Derived.Test.Qxb6606310aModsPlain
import Derived.WalkKit
import Derived.WalkSpells
import Derived.WalkLawsBesides
namespace Go.Proofs.Qxb6606310aMods.Model
open Go.RowKit Plain

set_option maxHeartbeats 400000 in
theorem isEnd_any (c : Int) (w : World) : Calls Trym.prog 18 #[.int .u8 c] w fun e w' => e = .returned (.bool (stopB c)) ∧ w' = w := by
  by_cases h1 : c = 32
  · subst h1
    go_enter Trym.func18, Trym.ntmps18
    go_wp2
    go_ret
    exact ⟨rfl, rfl⟩
  by_cases h2 : c = 9
  · subst h2
    go_enter Trym.func18, Trym.ntmps18
    go_wp2
    go_ret
    exact ⟨rfl, rfl⟩
  by_cases h3 : c = 10
  · subst h3
    go_enter Trym.func18, Trym.ntmps18
    go_wp2
    go_ret
    exact ⟨rfl, rfl⟩
  by_cases h4 : c = 13
  · subst h4
    go_enter Trym.func18, Trym.ntmps18
    go_wp2
    go_ret
    exact ⟨rfl, rfl⟩
  have g1 : (c == 32) = false := by simp [h1]
  have g2 : (c == 9) = false := by simp [h2]
  have g3 : (c == 10) = false := by simp [h3]
  have g4 : (c == 13) = false := by simp [h4]
  clear h1 h2 h3 h4
  go_enter Trym.func18, Trym.ntmps18
  go_wp2
  all_goals (go_ret; exact ⟨by simp [stopB, *], rfl⟩)

theorem ret_int {k : IntKind} {a b : Int} (h : a = b) : Ending.returned (.int k a) = .returned (.int k b) := by rw [h]
theorem p_next {d : List Int} {i k n T : Nat} (hn : Hid (d.length = n)) (h : k < n) (hik : i < k) (hr : Hid (flAt d (run d i k % 2 == 1) k = T)) (hb : (d[k]?.getD 0 != 34) = true) : Hid (flAt d (run d i (k + 1) % 2 == 1) (k + 1) = T) := by
  have e : d.getD k 0 ≠ 34 := by simpa using hb
  have h0 := par_step d i k hik (by rw [hn.out]; exact h) (fun h => absurd h e)
  rw [hr.out] at h0
  exact h0.symm
theorem p_odd {d : List Int} {i k n T r : Nat} (hn : Hid (d.length = n)) (h : k < n) (hik : i < k) (hr : Hid (flAt d (run d i k % 2 == 1) k = T)) (hq : Hid (r = run d i k)) (he : ¬ r % 2 = 0) : Hid (flAt d (run d i (k + 1) % 2 == 1) (k + 1) = T) := by
  have hq' := hq.out
  have h0 := par_step d i k hik (by rw [hn.out]; exact h) (fun _ => by omega)
  rw [hr.out] at h0
  exact h0.symm
theorem p_even {d : List Int} {i k n T r : Nat} (hn : Hid (d.length = n)) (h : k < n) (hr : Hid (flAt d (run d i k % 2 == 1) k = T)) (hb : (d[k]?.getD 0 != 34) = false) (hq : Hid (r = run d i k)) (he : r % 2 = 0) : k + 1 = T := by
  have hq' := hq.out
  have e : d.getD k 0 = 34 := by simpa using hb
  have h0 := par_hit d i k (by rw [hn.out]; exact h) e (by omega)
  rw [hr.out] at h0
  exact h0.symm
theorem p_out {d : List Int} {k n T : Nat} {e : Bool} (hn : Hid (d.length = n)) (hk : k ≤ n) (h : ¬ k < n) (hr : Hid (flAt d e k = T)) : n = T := by
  have h0 := flAt_end d e k (by rw [hn.out]; omega)
  rw [hr.out] at h0
  omega
theorem r_more {d : List Int} {i k m : Nat} (him : i < m) (hmk : m < k) (hr : Hid ((k - 1 - m) + run d i (m + 1) = run d i k)) (hb : (d[m]?.getD 0 == 92) = true) : Hid ((k - 1 - (m - 1)) + run d i (m - 1 + 1) = run d i k) := by
  have e : d.getD m 0 = 92 := by simpa using hb
  have hs : run d i (m + 1) = if i < m ∧ d.getD m 0 = 92 then run d i m + 1 else 0 := rfl
  rw [if_pos ⟨him, e⟩] at hs
  have := hr.out
  rw [show m - 1 + 1 = m from by omega]
  show _ = _
  omega
theorem r_stop {d : List Int} {i k m : Nat} (hr : Hid ((k - 1 - m) + run d i (m + 1) = run d i k)) (hb : ¬ (i < m ∧ d[m]?.getD 0 = 92)) : Hid (k - 1 - m = run d i k) := by
  have hs : run d i (m + 1) = if i < m ∧ d.getD m 0 = 92 then run d i m + 1 else 0 := rfl
  have hb' : ¬ (i < m ∧ d.getD m 0 = 92) := hb
  rw [if_neg hb'] at hs
  have := hr.out
  show _ = _
  omega

set_option maxHeartbeats 1000000 in
theorem modelStr_any (b off cap i n : Nat) (d : List Int) (w : World) (Hn : Hid (d.length = n)) (hN : n ≤ 1073741824) (hi : i < n)
    (hc : ∀ j, j < n → w.cell? ⟨b, off + j, none⟩ = some (.int .u8 (d.getD j 0))) :
    Calls Trym.prog 17 #[.slice (some ⟨b, off, none⟩) n cap, .int .i64 i] w fun e w' => e = .returned (.int .i64 (flAt d false (i + 1))) ∧ w' = w := by
  generalize hg : flAt d false (i + 1) = T at *
  have Hg : Hid (flAt d (run d i (i + 1) % 2 == 1) (i + 1) = T) := by rw [run_start]; exact hg
  clear hg
  go_enter Trym.func17, Trym.ntmps17
  go_wp2
  go_loop [5] (fun v => ∃ k : Nat, v = .int .i64 k ∧ i < k ∧ k ≤ n ∧ Hid (flAt d (run d i k % 2 == 1) k = T)) (fun v => n - (intOf v).toNat)
  case atStart => exact ⟨i + 1, by go_num, by omega, by omega, Hg⟩
  case round =>
    obtain ⟨k, rfl, hik, hk, hrel⟩ := hrel
    by_cases hlt : k < n
    · have hck := hc k hlt
      by_cases hq : (d[k]?.getD 0 != 34) = true
      · go_wp2
        go_round
        case rel => exact ⟨k + 1, by go_num, by omega, by omega, p_next Hn hlt hik hrel hq⟩
        case measure => simp [intOf]; omega
      · have hq' : (d[k]?.getD 0 != 34) = false := by simpa using hq
        clear hq
        go_wp2
        go_loop [6, 7] (fun r v => ∃ m : Nat, v = .int .i64 m ∧ i ≤ m ∧ m < k ∧ r = .int .i64 ((k - 1 - m : Nat) : Int) ∧ Hid ((k - 1 - m) + run d i (m + 1) = run d i k)) (fun _ v => (intOf v).toNat)
        case atStart => exact ⟨k - 1, by go_num, by omega, by omega, by go_num, by rw [show k - 1 + 1 = k from by omega]; show _ = _; omega⟩
        case round =>
          obtain ⟨m, rfl, him, hmk, rfl, hrel2⟩ := hrel
          have hcm := hc m (by omega)
          by_cases hm : i < m
          · by_cases h92 : (d[m]?.getD 0 == 92) = true
            · go_wp2
              go_round
              case rel => exact ⟨m - 1, by go_num, by omega, by omega, by go_num, r_more hm hmk hrel2 h92⟩
              case measure => simp [intOf]; omega
            · have h92' : (d[m]?.getD 0 == 92) = false := by simpa using h92
              have hs := r_stop hrel2 (fun h => h92 (by simpa using h.2))
              clear h92
              go_wp2
              · have hz : (((k - 1 - m : Nat) : Int) % 2 == 0) = true := by assumption
                have h1 := p_even Hn hlt hrel hq' hs (by have := of_decide_eq_true hz; omega)
                go_ret
                exact ⟨ret_int (by omega), rfl⟩
              · have hz : (((k - 1 - m : Nat) : Int) % 2 == 0) = false := by assumption
                go_round
                case rel => exact ⟨k + 1, by go_num, by omega, by omega, p_odd Hn hlt hik hrel hs (by have := of_decide_eq_false hz; omega)⟩
                case measure => simp [intOf]; omega
          · have hs := r_stop hrel2 (fun h => hm h.1)
            go_wp2
            · have hz : (((k - 1 - m : Nat) : Int) % 2 == 0) = true := by assumption
              have h1 := p_even Hn hlt hrel hq' hs (by have := of_decide_eq_true hz; omega)
              go_ret
              exact ⟨ret_int (by omega), rfl⟩
            · have hz : (((k - 1 - m : Nat) : Int) % 2 == 0) = false := by assumption
              go_round
              case rel => exact ⟨k + 1, by go_num, by omega, by omega, p_odd Hn hlt hik hrel hs (by have := of_decide_eq_false hz; omega)⟩
              case measure => simp [intOf]; omega
    · have h1 := p_out Hn hk hlt hrel
      go_wp2
      go_ret
      exact ⟨ret_int (by omega), rfl⟩
end Go.Proofs.Qxb6606310aMods.Model
