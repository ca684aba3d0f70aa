import Derived.Test.Qxb6606310aModsRows
import Derived.Test.Qxb6606310aModsPlain
import Derived.WalkKit
import Derived.WalkSpells
import Derived.WalkLawsBesides
namespace Go.Proofs.Qxb6606310aMods
open Go.RowKit Plain

theorem strStep (d : List Int) (k : Nat) (h : k < d.length) :
    min (flAt d false k) d.length = if d.getD k 0 = 92 then min (flAt d false (k + 2)) d.length else if d.getD k 0 = 34 then k + 1 else min (flAt d false (k + 1)) d.length := by
  rw [flAt_step d k h]
  split
  · by_cases h1 : k + 1 < d.length
    · rw [flAt_esc d (k + 1) h1]
    · rw [flAt_end d true (k + 1) (by omega), flAt_end d false (k + 2) (by omega)]; omega
  · split
    · omega
    · rfl

theorem str_esc {d : List Int} {k n T : Nat} (hn : Hid (d.length = n)) (h : k < n) (hr : Hid (min (flAt d false k) n = T)) (hb : (d[k]?.getD 0 == 92) = true) : Hid (min (flAt d false (k + 2)) n = T) := by
  have hl : d.length = n := hn.out
  have e : d.getD k 0 = 92 := by simpa using hb
  have h0 := strStep d k (by omega)
  have hr' := hr.out
  rw [e, if_pos rfl, hl] at h0
  show _ = T
  omega
theorem str_end {d : List Int} {k n T : Nat} (hn : Hid (d.length = n)) (h : k < n) (hr : Hid (min (flAt d false k) n = T)) (hb : (d[k]?.getD 0 == 34) = true) : k + 1 = T := by
  have hl : d.length = n := hn.out
  have e : d.getD k 0 = 34 := by simpa using hb
  have h0 := strStep d k (by omega)
  have hr' := hr.out
  rw [e, if_neg (by decide), if_pos rfl, hl] at h0
  omega
theorem str_next {d : List Int} {k n T : Nat} (hn : Hid (d.length = n)) (h : k < n) (hr : Hid (min (flAt d false k) n = T)) (hb : (d[k]?.getD 0 == 92) = false) (hb' : (d[k]?.getD 0 == 34) = false) : Hid (min (flAt d false (k + 1)) n = T) := by
  have hl : d.length = n := hn.out
  have e : d.getD k 0 ≠ 92 := by simpa using hb
  have e' : d.getD k 0 ≠ 34 := by simpa using hb'
  have h0 := strStep d k (by omega)
  have hr' := hr.out
  rw [if_neg e, if_neg e', hl] at h0
  show _ = T
  omega
theorem str_out {d : List Int} {k n T : Nat} (hr : Hid (min (flAt d false k) n = T)) (h : ¬ k < n) : n = T := by
  have hr' := hr.out
  have := flAt_ge d false k
  omega
theorem ret_int {k : IntKind} {a b : Int} (h : a = b) : Ending.returned (.int k a) = .returned (.int k b) := by rw [h]

set_option maxHeartbeats 400000 in
theorem skipString_any (b off cap i n : Nat) (d : List Int) (w : World) (Hn : Hid (d.length = n)) (hN : n ≤ 1073741824) (hi : i < n)
    (hc : ∀ j, j < n → w.cell? ⟨b, off + j, none⟩ = some (.int .u8 (d.getD j 0))) :
    Calls Trym.prog 21 #[.slice (some ⟨b, off, none⟩) n cap, .int .i64 i] w fun e w' => e = .returned (.int .i64 (flAt d false (i + 1))) ∧ w' = w := by
  have hT := flAt_le d false (i + 1) (by rw [Hn.out]; omega)
  rw [Hn.out] at hT
  generalize hg : flAt d false (i + 1) = T at *
  have Hg : Hid (min (flAt d false (i + 1)) n = T) := by show min (flAt d false (i + 1)) n = T; rw [hg]; omega
  clear hg
  go_enter Trym.func21, Trym.ntmps21
  go_wp2
  go_loop [1] (fun v => ∃ k : Nat, v = .int .i64 k ∧ k ≤ n + 1 ∧ Hid (min (flAt d false k) n = T)) (fun v => n + 2 - (intOf v).toNat)
  case atStart => exact ⟨i + 1, by go_num, by omega, Hg⟩
  case round =>
    obtain ⟨k, rfl, hk, hrel⟩ := hrel
    by_cases hlt : k < n
    · have hck := hc k hlt
      go_wp2
      · have hb : (d[k]?.getD 0 == 92) = true := by assumption
        go_round
        case rel => exact ⟨k + 2, by go_num, by omega, str_esc Hn hlt hrel hb⟩
        case measure => simp [intOf]; omega
      · have hb : (d[k]?.getD 0 == 34) = true := by assumption
        have h1 := str_end Hn hlt hrel hb
        go_ret
        exact ⟨ret_int (by omega), rfl⟩
      · have hb : (d[k]?.getD 0 == 92) = false := by assumption
        have hb' : (d[k]?.getD 0 == 34) = false := by assumption
        go_round
        case rel => exact ⟨k + 1, by go_num, by omega, str_next Hn hlt hrel hb hb'⟩
        case measure => simp [intOf]; omega
    · have h1 := str_out hrel hlt
      go_wp2
      go_ret
      exact ⟨ret_int (by omega), rfl⟩

/-! ### skipValue -/
theorem ct_quote {d : List Int} {k n T : Nat} {m : Int} (hn : Hid (d.length = n)) (h : k < n) (hr : Hid (ctAt d m false false k = T)) (hb : (d[k]?.getD 0 == 34) = true) : Hid (ctAt d m false false (flAt d false (k + 1)) = T) := by
  have e : d.getD k 0 = 34 := by simpa using hb
  have h0 := ctAt_out d m false k (by rw [hn.out]; exact h)
  rw [if_pos e, ctAt_str, hr.out] at h0
  exact h0.symm
theorem ct_open {d : List Int} {k n T : Nat} {m : Int} (hn : Hid (d.length = n)) (h : k < n) (hr : Hid (ctAt d m false false k = T)) (hb : (d[k]?.getD 0 == 123) = true ∨ (d[k]?.getD 0 == 91) = true) : Hid (ctAt d (m + 1) false false (k + 1) = T) := by
  have e : d.getD k 0 = 123 ∨ d.getD k 0 = 91 := by simpa using hb
  have h0 := ctAt_out d m false k (by rw [hn.out]; exact h)
  rw [if_neg (by omega), if_pos e, hr.out] at h0
  exact h0.symm
theorem ct_close {d : List Int} {k n T : Nat} {m : Int} (hn : Hid (d.length = n)) (h : k < n) (hr : Hid (ctAt d m false false k = T)) (hb : (d[k]?.getD 0 == 125) = true ∨ (d[k]?.getD 0 == 93) = true) (hz : m - 1 = 0) : k + 1 = T := by
  have e : d.getD k 0 = 125 ∨ d.getD k 0 = 93 := by simpa using hb
  have h0 := ctAt_out d m false k (by rw [hn.out]; exact h)
  rw [if_neg (by omega), if_neg (by omega), if_pos e, if_pos hz, hr.out] at h0
  exact h0.symm
theorem ct_less {d : List Int} {k n T : Nat} {m : Int} (hn : Hid (d.length = n)) (h : k < n) (hr : Hid (ctAt d m false false k = T)) (hb : (d[k]?.getD 0 == 125) = true ∨ (d[k]?.getD 0 == 93) = true) (hz : m - 1 ≠ 0) : Hid (ctAt d (m - 1) false false (k + 1) = T) := by
  have e : d.getD k 0 = 125 ∨ d.getD k 0 = 93 := by simpa using hb
  have h0 := ctAt_out d m false k (by rw [hn.out]; exact h)
  rw [if_neg (by omega), if_neg (by omega), if_pos e, if_neg hz, hr.out] at h0
  exact h0.symm
theorem ct_else {d : List Int} {k n T : Nat} {m : Int} (hn : Hid (d.length = n)) (h : k < n) (hr : Hid (ctAt d m false false k = T)) (h1 : (d[k]?.getD 0 == 34) = false) (h2 : (d[k]?.getD 0 == 123) = false) (h3 : (d[k]?.getD 0 == 91) = false) (h4 : (d[k]?.getD 0 == 125) = false) (h5 : (d[k]?.getD 0 == 93) = false) : Hid (ctAt d m false false (k + 1) = T) := by
  have e1 : d.getD k 0 ≠ 34 := by simpa using h1
  have e2 : d.getD k 0 ≠ 123 := by simpa using h2
  have e3 : d.getD k 0 ≠ 91 := by simpa using h3
  have e4 : d.getD k 0 ≠ 125 := by simpa using h4
  have e5 : d.getD k 0 ≠ 93 := by simpa using h5
  have h0 := ctAt_out d m false k (by rw [hn.out]; exact h)
  rw [if_neg e1, if_neg (by omega), if_neg (by omega), hr.out] at h0
  exact h0.symm
theorem ct_out {d : List Int} {k n T : Nat} {m : Int} {s e : Bool} (hn : Hid (d.length = n)) (hk : k ≤ n) (h : ¬ k < n) (hr : Hid (ctAt d m s e k = T)) : k = T := by
  have h0 := ctAt_end d m s e k (by rw [hn.out]; omega)
  rw [hr.out] at h0
  exact h0.symm

set_option maxHeartbeats 400000 in
theorem skipValue_end (a : Option Addr) (cap n : Nat) (w : World) :
    Calls Trym.prog 16 #[.slice a n cap, .int .i64 n] w fun e w' => e = .returned (.int .i64 n) ∧ w' = w := by
  go_enter Trym.func16, Trym.ntmps16
  go_wp2
  go_ret
  exact ⟨rfl, rfl⟩

set_option maxHeartbeats 400000 in
theorem skipValue_str (b off cap i n : Nat) (d : List Int) (w : World) (Hn : Hid (d.length = n)) (hN : n ≤ 1073741824) (hi : i < n)
    (hc : ∀ j, j < n → w.cell? ⟨b, off + j, none⟩ = some (.int .u8 (d.getD j 0))) (h34 : (d[i]?.getD 0 == 34) = true) :
    Calls Trym.prog 16 #[.slice (some ⟨b, off, none⟩) n cap, .int .i64 i] w fun e w' => e = .returned (.int .i64 (flAt d false (i + 1))) ∧ w' = w := by
  have hci := hc i hi
  have hne : ((i : Int) == (n : Int)) = false := by simp; omega
  go_enter Trym.func16, Trym.ntmps16
  go_wp2_with (go_at_call 21; refine (skipString_any b off cap i n d _ Hn hN hi hc).mono ?_; rintro e w' ⟨rfl, rfl⟩)
  go_ret
  exact ⟨rfl, rfl⟩

set_option maxHeartbeats 400000 in
theorem skipValue_cont (b off cap i n : Nat) (d : List Int) (w : World) (Hn : Hid (d.length = n)) (hN : n ≤ 1073741824) (hi : i < n)
    (hc : ∀ j, j < n → w.cell? ⟨b, off + j, none⟩ = some (.int .u8 (d.getD j 0))) (h34 : (d[i]?.getD 0 == 34) = false) (hop : (d[i]?.getD 0 == 123) = true ∨ (d[i]?.getD 0 == 123) = false ∧ (d[i]?.getD 0 == 91) = true) :
    Calls Trym.prog 16 #[.slice (some ⟨b, off, none⟩) n cap, .int .i64 i] w fun e w' => e = .returned (.int .i64 (ctAt d 0 false false i)) ∧ w' = w := by
  have hci := hc i hi
  have hne : ((i : Int) == (n : Int)) = false := by simp; omega
  generalize hg : ctAt d 0 false false i = T at *
  have Hg : Hid (ctAt d 0 false false i = T) := hg
  clear hg
  rcases hop with hop | ⟨hop', hop⟩
  all_goals
    go_enter Trym.func16, Trym.ntmps16
    go_wp2_with fail
    go_loop [1, 5] (fun v m => ∃ (k : Nat) (t : Int), v = .int .i64 k ∧ m = .int .i64 t ∧ k ≤ n ∧ -(k : Int) ≤ t ∧ t ≤ k ∧ Hid (ctAt d t false false k = T)) (fun v _ => n - (intOf v).toNat)
    case atStart => exact ⟨i, 0, rfl, rfl, by omega, by omega, by omega, Hg⟩
    case round =>
      obtain ⟨k, t, rfl, rfl, hk, ht1, ht2, hrel⟩ := hrel
      by_cases hlt : k < n
      · have hck := hc k hlt
        go_wp2_with (go_at_call 21; refine (skipString_any b off cap k n d _ Hn hN hlt hc).mono ?_; rintro e w' ⟨rfl, rfl⟩)
        · have hb : (d[k]?.getD 0 == 34) = true := by assumption
          have hg1 := flAt_ge d false (k + 1)
          have hg2 := flAt_le d false (k + 1) (by rw [Hn.out]; omega)
          rw [Hn.out] at hg2
          go_round
          case rel => exact ⟨_, t, rfl, rfl, hg2, by omega, by omega, ct_quote Hn hlt hrel hb⟩
          case measure => simp [intOf]; omega
        · have hb : (d[k]?.getD 0 == 123) = true := by assumption
          go_round
          case rel => exact ⟨k + 1, t + 1, by go_num, rfl, by omega, by omega, by omega, ct_open Hn hlt hrel (.inl hb)⟩
          case measure => simp [intOf]; omega
        · have hb : (d[k]?.getD 0 == 91) = true := by assumption
          go_round
          case rel => exact ⟨k + 1, t + 1, by go_num, rfl, by omega, by omega, by omega, ct_open Hn hlt hrel (.inr hb)⟩
          case measure => simp [intOf]; omega
        · have hb : (d[k]?.getD 0 == 125) = true := by assumption
          have hz : (t - 1 == 0) = true := by assumption
          have h1 := ct_close Hn hlt hrel (.inl hb) (by simpa using hz)
          go_ret
          exact ⟨ret_int (by omega), rfl⟩
        · have hb : (d[k]?.getD 0 == 125) = true := by assumption
          have hz : (t - 1 == 0) = false := by assumption
          go_round
          case rel => exact ⟨k + 1, t - 1, by go_num, rfl, by omega, by omega, by omega, ct_less Hn hlt hrel (.inl hb) (by simpa using hz)⟩
          case measure => simp [intOf]; omega
        · have hb : (d[k]?.getD 0 == 93) = true := by assumption
          have hz : (t - 1 == 0) = true := by assumption
          have h1 := ct_close Hn hlt hrel (.inr hb) (by simpa using hz)
          go_ret
          exact ⟨ret_int (by omega), rfl⟩
        · have hb : (d[k]?.getD 0 == 93) = true := by assumption
          have hz : (t - 1 == 0) = false := by assumption
          go_round
          case rel => exact ⟨k + 1, t - 1, by go_num, rfl, by omega, by omega, by omega, ct_less Hn hlt hrel (.inr hb) (by simpa using hz)⟩
          case measure => simp [intOf]; omega
        · have h1 : (d[k]?.getD 0 == 34) = false := by assumption
          have h2 : (d[k]?.getD 0 == 123) = false := by assumption
          have h3 : (d[k]?.getD 0 == 91) = false := by assumption
          have h4 : (d[k]?.getD 0 == 125) = false := by assumption
          have h5 : (d[k]?.getD 0 == 93) = false := by assumption
          go_round
          case rel => exact ⟨k + 1, t, by go_num, rfl, by omega, by omega, by omega, ct_else Hn hlt hrel h1 h2 h3 h4 h5⟩
          case measure => simp [intOf]; omega
      · have h1 := ct_out Hn hk hlt hrel
        go_wp2
        go_ret
        exact ⟨ret_int (by omega), rfl⟩

theorem sc_hit {d : List Int} {k n T : Nat} (hn : Hid (d.length = n)) (h : k < n) (hr : Hid (scAt d k = T)) (hb : stopB (d[k]?.getD 0) = true) : k = T := by
  have e : stopB (d.getD k 0) = true := by simpa using hb
  have h0 := scAt_step d k (by rw [hn.out]; exact h)
  rw [if_pos e, hr.out] at h0
  exact h0.symm
theorem sc_miss {d : List Int} {k n T : Nat} (hn : Hid (d.length = n)) (h : k < n) (hr : Hid (scAt d k = T)) (hb : stopB (d[k]?.getD 0) = false) : Hid (scAt d (k + 1) = T) := by
  have e : ¬ stopB (d.getD k 0) = true := by simpa using hb
  have h0 := scAt_step d k (by rw [hn.out]; exact h)
  rw [if_neg e, hr.out] at h0
  exact h0.symm
theorem sc_out {d : List Int} {k n T : Nat} (hn : Hid (d.length = n)) (hk : k ≤ n) (h : ¬ k < n) (hr : Hid (scAt d k = T)) : k = T := by
  have h0 := scAt_end d k (by rw [hn.out]; omega)
  rw [hr.out] at h0
  exact h0.symm

set_option maxHeartbeats 400000 in
theorem skipValue_scal (b off cap i n : Nat) (d : List Int) (w : World) (Hn : Hid (d.length = n)) (hN : n ≤ 1073741824) (hi : i < n)
    (hc : ∀ j, j < n → w.cell? ⟨b, off + j, none⟩ = some (.int .u8 (d.getD j 0))) (h34 : (d[i]?.getD 0 == 34) = false) (h1 : (d[i]?.getD 0 == 123) = false) (h2 : (d[i]?.getD 0 == 91) = false) :
    Calls Trym.prog 16 #[.slice (some ⟨b, off, none⟩) n cap, .int .i64 i] w fun e w' => e = .returned (.int .i64 (scAt d i)) ∧ w' = w := by
  have hci := hc i hi
  have hne : ((i : Int) == (n : Int)) = false := by simp; omega
  generalize hg : scAt d i = T at *
  have Hg : Hid (scAt d i = T) := hg
  clear hg
  go_enter Trym.func16, Trym.ntmps16
  go_wp2_with fail
  go_loop [1] (fun v => ∃ (k : Nat), v = .int .i64 k ∧ k ≤ n ∧ Hid (scAt d k = T)) (fun v => n - (intOf v).toNat)
  case atStart => exact ⟨i, rfl, by omega, Hg⟩
  case round =>
    obtain ⟨k, rfl, hk, hrel⟩ := hrel
    by_cases hlt : k < n
    · have hck := hc k hlt
      go_wp2
      all_goals first
        | (have hb : stopB (d[k]?.getD 0) = false := by simp [stopB, *]
           go_round
           case rel => exact ⟨k + 1, by go_num, by omega, sc_miss Hn hlt hrel hb⟩
           case measure => simp [intOf]; omega)
        | (have hb : stopB (d[k]?.getD 0) = true := by simp [stopB, *]
           have h1 := sc_hit Hn hlt hrel hb
           go_ret
           exact ⟨ret_int (by omega), rfl⟩)
    · have h1 := sc_out Hn hk hlt hrel
      go_wp2
      go_ret
      exact ⟨ret_int (by omega), rfl⟩

theorem valEnd_eq {d : List Int} {i n : Nat} (Hn : Hid (d.length = n)) (hi : i < n) : valEnd d i = if d[i]?.getD 0 = 34 then flAt d false (i + 1) else if d[i]?.getD 0 = 123 ∨ d[i]?.getD 0 = 91 then ctAt d 0 false false i else scAt d i := by
  unfold valEnd
  rw [if_neg (by rw [Hn.out]; omega)]
  rfl

/-- skipValue: from a place of the data it comes to 'valEnd'. -/
theorem skipValue_any (b off cap i n : Nat) (d : List Int) (w : World) (Hn : Hid (d.length = n)) (hN : n ≤ 1073741824) (hi : i ≤ n)
    (hc : ∀ j, j < n → w.cell? ⟨b, off + j, none⟩ = some (.int .u8 (d.getD j 0))) :
    Calls Trym.prog 16 #[.slice (some ⟨b, off, none⟩) n cap, .int .i64 i] w fun e w' => e = .returned (.int .i64 (valEnd d i)) ∧ w' = w := by
  by_cases hin : i < n
  · rw [valEnd_eq Hn hin]
    by_cases h34 : d[i]?.getD 0 = 34
    · rw [if_pos h34]
      exact skipValue_str b off cap i n d w Hn hN hin hc (by simp [h34])
    · rw [if_neg h34]
      by_cases h1 : d[i]?.getD 0 = 123
      · rw [if_pos (.inl h1)]
        exact skipValue_cont b off cap i n d w Hn hN hin hc (by simp [h34]) (.inl (by simp [h1]))
      · by_cases h2 : d[i]?.getD 0 = 91
        · rw [if_pos (.inr h2)]
          exact skipValue_cont b off cap i n d w Hn hN hin hc (by simp [h34]) (.inr ⟨by simp [h1], by simp [h2]⟩)
        · rw [if_neg (by omega)]
          exact skipValue_scal b off cap i n d w Hn hN hin hc (by simp [h34]) (by simp [h1]) (by simp [h2])
  · have e : i = n := by omega
    subst e
    have ev : valEnd d i = i := by unfold valEnd; rw [if_pos Hn.out.symm]
    rw [ev]
    exact skipValue_end _ cap i w

set_option maxHeartbeats 400000 in
theorem zzSkip_any (b off cap i n : Nat) (d : List Int) (w : World) (Hn : Hid (d.length = n)) (hN : n ≤ 1073741824) (hi : i ≤ n)
    (hc : ∀ j, j < n → w.cell? ⟨b, off + j, none⟩ = some (.int .u8 (d.getD j 0))) :
    Calls Trym.prog 7 #[.slice (some ⟨b, off, none⟩) n cap, .int .i64 i] w fun e w' => e = .returned (.int .i64 (valEnd d i)) ∧ w' = w := by
  go_enter Trym.func7, Trym.ntmps7
  go_wp2_with (go_at_call 16; refine (skipValue_any b off cap i n d _ Hn hN hi hc).mono ?_; rintro e w' ⟨rfl, rfl⟩)
  go_ret
  exact ⟨rfl, rfl⟩

set_option maxHeartbeats 400000 in
theorem zzSkip_nil (w : World) :
    Calls Trym.prog 7 #[.slice none 0 0, .int .i64 0] w fun e w' => e = .returned (.int .i64 0) ∧ w' = w := by
  go_enter Trym.func7, Trym.ntmps7
  go_wp2_with (go_at_call 16; refine (skipValue_end none 0 0 _).mono ?_; rintro e w' ⟨rfl, rfl⟩)
  go_ret
  exact ⟨rfl, rfl⟩
end Go.Proofs.Qxb6606310aMods
