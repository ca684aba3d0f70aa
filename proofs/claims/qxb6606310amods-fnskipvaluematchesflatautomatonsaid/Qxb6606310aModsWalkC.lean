import Derived.Test.Qxb6606310aModsWalkA
import Derived.Test.Qxb6606310aModsWalkB
namespace Go.Proofs.Qxb6606310aMods.Model
open Go.RowKit Plain

theorem ct_esc {d : List Int} {k n T : Nat} {m : Int} (hn : Hid (d.length = n)) (h : k < n) (hr : Hid (ctAt d m true true k = T)) : Hid (ctAt d m true false (k + 1) = T) := by
  have h0 := ctAt_esc d m k (by rw [hn.out]; exact h)
  rw [hr.out] at h0
  exact h0.symm
theorem ct_bs {d : List Int} {k n T : Nat} {m : Int} (hn : Hid (d.length = n)) (h : k < n) (hr : Hid (ctAt d m true false k = T)) (hb : (d[k]?.getD 0 == 92) = true) : Hid (ctAt d m true true (k + 1) = T) := by
  have e : d.getD k 0 = 92 := by simpa using hb
  have h0 := ctAt_in d m k (by rw [hn.out]; exact h)
  rw [if_pos e, hr.out] at h0
  exact h0.symm
theorem ct_leave {d : List Int} {k n T : Nat} {m : Int} (hn : Hid (d.length = n)) (h : k < n) (hr : Hid (ctAt d m true false k = T)) (hb : (d[k]?.getD 0 == 34) = true) : Hid (ctAt d m false false (k + 1) = T) := by
  have e : d.getD k 0 = 34 := by simpa using hb
  have h0 := ctAt_in d m k (by rw [hn.out]; exact h)
  rw [if_neg (by omega), if_pos e, hr.out] at h0
  exact h0.symm
theorem ct_stay {d : List Int} {k n T : Nat} {m : Int} (hn : Hid (d.length = n)) (h : k < n) (hr : Hid (ctAt d m true false k = T)) (h1 : (d[k]?.getD 0 == 92) = false) (h2 : (d[k]?.getD 0 == 34) = false) : Hid (ctAt d m true false (k + 1) = T) := by
  have e1 : d.getD k 0 ≠ 92 := by simpa using h1
  have e2 : d.getD k 0 ≠ 34 := by simpa using h2
  have h0 := ctAt_in d m k (by rw [hn.out]; exact h)
  rw [if_neg e1, if_neg e2, hr.out] at h0
  exact h0.symm
theorem ct_enter {d : List Int} {k n T : Nat} {m : Int} (hn : Hid (d.length = n)) (h : k < n) (hr : Hid (ctAt d m false false k = T)) (hb : (d[k]?.getD 0 == 34) = true) : Hid (ctAt d m true false (k + 1) = T) := by
  have e : d.getD k 0 = 34 := by simpa using hb
  have h0 := ctAt_out d m false k (by rw [hn.out]; exact h)
  rw [if_pos e, hr.out] at h0
  exact h0.symm
theorem ct_ends {d : List Int} {k n T : Nat} {m : Int} {s e : Bool} (hn : Hid (d.length = n)) (hk : k ≤ n) (h : ¬ k < n) (hr : Hid (ctAt d m s e k = T)) : n = T := by
  have := ct_out hn hk h hr
  omega

set_option maxHeartbeats 1000000 in
theorem model_cont (b off cap i n : Nat) (d : List Int) (w : World) (Hn : Hid (d.length = n)) (hN : n ≤ 1073741824) (hi : i < n)
    (hc : ∀ j, j < n → w.cell? ⟨b, off + j, none⟩ = some (.int .u8 (d.getD j 0))) (h34 : (d[i]?.getD 0 == 34) = false) (hop : (d[i]?.getD 0 == 123) = true ∨ (d[i]?.getD 0 == 123) = false ∧ (d[i]?.getD 0 == 91) = true) :
    Calls Trym.prog 8 #[.slice (some ⟨b, off, none⟩) n cap, .int .i64 i] w fun e w' => e = .returned (.int .i64 (ctAt d 0 false false i)) ∧ w' = w := by
  have hci := hc i hi
  have hne : ((i : Int) == (n : Int)) = false := by simp; omega
  generalize hg : ctAt d 0 false false i = T at *
  have Hg : Hid (ctAt d 0 false false i = T) := hg
  clear hg
  rcases hop with hop | ⟨hop', hop⟩
  all_goals
    go_enter Trym.func8, Trym.ntmps8
    go_wp2_with fail
    go_loop [6, 7, 8, 9] (fun m sv ev v => ∃ (k : Nat) (t : Int) (s e : Bool), v = .int .i64 k ∧ m = .int .i64 t ∧ sv = .bool s ∧ ev = .bool e ∧ (s = true ∨ e = false) ∧ k ≤ n ∧ -(k : Int) ≤ t ∧ t ≤ k ∧ Hid (ctAt d t s e k = T)) (fun _ _ _ v => n - (intOf v).toNat)
    case atStart => exact ⟨i, 0, false, false, rfl, rfl, rfl, rfl, .inr rfl, by omega, by omega, by omega, Hg⟩
    case round =>
      obtain ⟨k, t, s, e, rfl, rfl, rfl, rfl, hse, hk, ht1, ht2, hrel⟩ := hrel
      by_cases hlt : k < n
      · have hck := hc k hlt
        cases s with
        | true =>
          clear hse
          cases e with
          | true =>
            go_wp2
            go_round
            case rel => exact ⟨k + 1, t, true, false, by go_num, rfl, rfl, rfl, .inl rfl, by omega, by omega, by omega, ct_esc Hn hlt hrel⟩
            case measure => simp [intOf]; omega
          | false =>
            go_wp2
            · have hb : (d[k]?.getD 0 == 92) = true := by assumption
              go_round
              case rel => exact ⟨k + 1, t, true, true, by go_num, rfl, rfl, rfl, .inl rfl, by omega, by omega, by omega, ct_bs Hn hlt hrel hb⟩
              case measure => simp [intOf]; omega
            · have hb : (d[k]?.getD 0 == 34) = true := by assumption
              go_round
              case rel => exact ⟨k + 1, t, false, false, by go_num, rfl, rfl, rfl, .inr rfl, by omega, by omega, by omega, ct_leave Hn hlt hrel hb⟩
              case measure => simp [intOf]; omega
            · have h1 : (d[k]?.getD 0 == 92) = false := by assumption
              have h2 : (d[k]?.getD 0 == 34) = false := by assumption
              go_round
              case rel => exact ⟨k + 1, t, true, false, by go_num, rfl, rfl, rfl, .inl rfl, by omega, by omega, by omega, ct_stay Hn hlt hrel h1 h2⟩
              case measure => simp [intOf]; omega
        | false =>
          obtain rfl : e = false := by simpa using hse
          clear hse
          go_wp2
          · have hb : (d[k]?.getD 0 == 34) = true := by assumption
            go_round
            case rel => exact ⟨k + 1, t, true, false, by go_num, rfl, rfl, rfl, .inl rfl, by omega, by omega, by omega, ct_enter Hn hlt hrel hb⟩
            case measure => simp [intOf]; omega
          · have hb : d[k]?.getD 0 = 123 := by assumption
            go_round
            case rel => exact ⟨k + 1, t + 1, false, false, by go_num, rfl, rfl, rfl, .inr rfl, by omega, by omega, by omega, ct_open Hn hlt hrel (.inl (by rw [hb]; rfl))⟩
            case measure => simp [intOf]; omega
          · have hb : (d[k]?.getD 0 == 123) = true ∨ (d[k]?.getD 0 == 91) = true := by assumption
            go_round
            case rel => exact ⟨k + 1, t + 1, false, false, by go_num, rfl, rfl, rfl, .inr rfl, by omega, by omega, by omega, ct_open Hn hlt hrel hb⟩
            case measure => simp [intOf]; omega
          · have hb : d[k]?.getD 0 = 125 := by assumption
            have hz : (t - 1 == 0) = true := by assumption
            have h1 := ct_close Hn hlt hrel (.inl (by rw [hb]; rfl)) (by simpa using hz)
            go_ret
            exact ⟨ret_int (by omega), rfl⟩
          · have hb : d[k]?.getD 0 = 125 := by assumption
            have hz : (t - 1 == 0) = false := by assumption
            go_round
            case rel => exact ⟨k + 1, t - 1, false, false, by go_num, rfl, rfl, rfl, .inr rfl, by omega, by omega, by omega, ct_less Hn hlt hrel (.inl (by rw [hb]; rfl)) (by simpa using hz)⟩
            case measure => simp [intOf]; omega
          · have hb : (d[k]?.getD 0 == 125) = true ∨ (d[k]?.getD 0 == 93) = true := by assumption
            have hz : (t - 1 == 0) = true := by assumption
            have h1 := ct_close Hn hlt hrel hb (by simpa using hz)
            go_ret
            exact ⟨ret_int (by omega), rfl⟩
          · have hb : (d[k]?.getD 0 == 125) = true ∨ (d[k]?.getD 0 == 93) = true := by assumption
            have hz : (t - 1 == 0) = false := by assumption
            go_round
            case rel => exact ⟨k + 1, t - 1, false, false, by go_num, rfl, rfl, rfl, .inr rfl, by omega, by omega, by omega, ct_less Hn hlt hrel hb (by simpa using hz)⟩
            case measure => simp [intOf]; omega
          · have h1 : (d[k]?.getD 0 == 34) = false := by assumption
            have h2 : (d[k]?.getD 0 == 123) = false ∧ (d[k]?.getD 0 == 91) = false := by assumption
            have h3 : (d[k]?.getD 0 == 125) = false ∧ (d[k]?.getD 0 == 93) = false := by assumption
            go_round
            case rel => exact ⟨k + 1, t, false, false, by go_num, rfl, rfl, rfl, .inr rfl, by omega, by omega, by omega, ct_else Hn hlt hrel h1 h2.1 h2.2 h3.1 h3.2⟩
            case measure => simp [intOf]; omega
      · have h1 := ct_ends Hn hk hlt hrel
        go_wp2
        go_ret
        exact ⟨ret_int (by omega), rfl⟩

set_option maxHeartbeats 400000 in
theorem model_end (a : Option Addr) (cap n : Nat) (w : World) :
    Calls Trym.prog 8 #[.slice a n cap, .int .i64 n] w fun e w' => e = .returned (.int .i64 n) ∧ w' = w := by
  go_enter Trym.func8, Trym.ntmps8
  go_wp2
  go_ret
  exact ⟨rfl, rfl⟩

set_option maxHeartbeats 400000 in
theorem model_str (b off cap i n : Nat) (d : List Int) (w : World) (Hn : Hid (d.length = n)) (hN : n ≤ 1073741824) (hi : i < n)
    (hc : ∀ j, j < n → w.cell? ⟨b, off + j, none⟩ = some (.int .u8 (d.getD j 0))) (h34 : (d[i]?.getD 0 == 34) = true) :
    Calls Trym.prog 8 #[.slice (some ⟨b, off, none⟩) n cap, .int .i64 i] w fun e w' => e = .returned (.int .i64 (flAt d false (i + 1))) ∧ w' = w := by
  have hci := hc i hi
  have hne : ((i : Int) == (n : Int)) = false := by simp; omega
  go_enter Trym.func8, Trym.ntmps8
  go_wp2_with (go_at_call 17; refine (modelStr_any b off cap i n d _ Hn hN hi hc).mono ?_; rintro e w' ⟨rfl, rfl⟩)
  go_ret
  exact ⟨rfl, rfl⟩

set_option maxHeartbeats 400000 in
theorem model_scal (b off cap i n : Nat) (d : List Int) (w : World) (Hn : Hid (d.length = n)) (hN : n ≤ 1073741824) (hi : i < n)
    (hc : ∀ j, j < n → w.cell? ⟨b, off + j, none⟩ = some (.int .u8 (d.getD j 0))) (h34 : (d[i]?.getD 0 == 34) = false) (h1 : (d[i]?.getD 0 == 123) = false) (h2 : (d[i]?.getD 0 == 91) = false) :
    Calls Trym.prog 8 #[.slice (some ⟨b, off, none⟩) n cap, .int .i64 i] w fun e w' => e = .returned (.int .i64 (scAt d i)) ∧ w' = w := by
  have hci := hc i hi
  have hne : ((i : Int) == (n : Int)) = false := by simp; omega
  generalize hg : scAt d i = T at *
  have Hg : Hid (scAt d i = T) := hg
  clear hg
  go_enter Trym.func8, Trym.ntmps8
  go_wp2_with fail
  go_loop [11] (fun v => ∃ (k : Nat), v = .int .i64 k ∧ k ≤ n ∧ Hid (scAt d k = T)) (fun v => n - (intOf v).toNat)
  case atStart => exact ⟨i, rfl, by omega, Hg⟩
  case round =>
    obtain ⟨k, rfl, hk, hrel⟩ := hrel
    by_cases hlt : k < n
    · have hck := hc k hlt
      by_cases hs : stopB (d[k]?.getD 0) = true
      · go_wp2_with (go_at_call 18; refine (isEnd_any _ _).mono ?_; rintro e w' ⟨rfl, rfl⟩)
        have h1 := sc_hit Hn hlt hrel hs
        go_ret
        exact ⟨ret_int (by omega), rfl⟩
      · have hs' : stopB (d[k]?.getD 0) = false := by simpa using hs
        clear hs
        go_wp2_with (go_at_call 18; refine (isEnd_any _ _).mono ?_; rintro e w' ⟨rfl, rfl⟩)
        go_round
        case rel => exact ⟨k + 1, by go_num, by omega, sc_miss Hn hlt hrel hs'⟩
        case measure => simp [intOf]; omega
    · have h1 := sc_out Hn hk hlt hrel
      go_wp2_with fail
      go_ret
      exact ⟨ret_int (by omega), rfl⟩

theorem model_any (b off cap i n : Nat) (d : List Int) (w : World) (Hn : Hid (d.length = n)) (hN : n ≤ 1073741824) (hi : i ≤ n)
    (hc : ∀ j, j < n → w.cell? ⟨b, off + j, none⟩ = some (.int .u8 (d.getD j 0))) :
    Calls Trym.prog 8 #[.slice (some ⟨b, off, none⟩) n cap, .int .i64 i] w fun e w' => e = .returned (.int .i64 (valEnd d i)) ∧ w' = w := by
  by_cases hin : i < n
  · rw [valEnd_eq Hn hin]
    by_cases h34 : d[i]?.getD 0 = 34
    · rw [if_pos h34]
      exact model_str b off cap i n d w Hn hN hin hc (by simp [h34])
    · rw [if_neg h34]
      by_cases h1 : d[i]?.getD 0 = 123
      · rw [if_pos (.inl h1)]
        exact model_cont b off cap i n d w Hn hN hin hc (by simp [h34]) (.inl (by simp [h1]))
      · by_cases h2 : d[i]?.getD 0 = 91
        · rw [if_pos (.inr h2)]
          exact model_cont b off cap i n d w Hn hN hin hc (by simp [h34]) (.inr ⟨by simp [h1], by simp [h2]⟩)
        · rw [if_neg (by omega)]
          exact model_scal b off cap i n d w Hn hN hin hc (by simp [h34]) (by simp [h1]) (by simp [h2])
  · have e : i = n := by omega
    subst e
    have ev : valEnd d i = i := by unfold valEnd; rw [if_pos Hn.out.symm]
    rw [ev]
    exact model_end _ cap i w
end Go.Proofs.Qxb6606310aMods.Model
