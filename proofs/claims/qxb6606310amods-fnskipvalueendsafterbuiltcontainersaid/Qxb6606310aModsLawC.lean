import Derived.Test.Qxb6606310aModsLawB
import Derived.Test.Qxb6606310aModsBuild
namespace Go.Proofs.Qxb6606310aMods.LawC
open Go.RowKit Plain Onto LawB
set_option linter.unusedVariables false

/-- The body's slice, as the walk has it. -/
structure Bod (H : Nat) (w wx : World) (a : Option Addr) (T cap : Nat) (t : List Int) : Prop where
  len : t.length = T
  owns : Owns H wx (.slice a T cap) t
  below : Below H w wx
  size : H ≤ wx.heap.size
  head : ∃ c o', t = c :: o' ∧ (c = 123 ∨ c = 91)
  ends : Plain.Ends t

theorem bod_of {w w1 : World} {v : Value} {L : Nat} (h : Built w.heap.size w w1 v L) : ∃ a T cap t, v = .slice a T cap ∧ T ≤ 65 * (L + 1) ∧ 0 < T ∧ Bod w.heap.size w w1 a T cap t := by
  obtain ⟨t, h1, h2, h3, h4, h5, h6⟩ := h
  obtain ⟨a, cap, e⟩ := h1.form
  subst e
  refine ⟨a, _, cap, t, rfl, h4, ?_, rfl, h1, h2, h3, h5, h6⟩
  obtain ⟨c, o', rfl, _⟩ := h5
  simp

/-- Body and data side by side. -/
structure Two (H : Nat) (w wx : World) (a : Option Addr) (T cap : Nat) (t : List Int) (v : Value) (d : List Int) : Prop where
  tok : Bod H w wx a T cap t
  data : Owns H wx v d
  apart : v.ownBlock = none ∨ ∃ g, v.ownBlock = some g ∧ ((Value.slice a T cap).ownBlock = none ∨ ∃ k, (Value.slice a T cap).ownBlock = some k ∧ k ≠ g)

theorem Two.start {H : Nat} {w wx w' : World} {a : Option Addr} {T cap n : Nat} {t : List Int} (h : Bod H w wx a T cap t) (ho : w'.ownsRow H 5 1 (.slice (some ⟨wx.heap.size, 0, none⟩) 0 n) 0 []) (hg : wx.grownBy w' none) :
    Two H w w' a T cap t (.slice (some ⟨wx.heap.size, 0, none⟩) 0 n) [] := by
  refine ⟨⟨h.len, h.owns.kept hg ?_, h.below.grown hg h.size (by simp), Nat.le_trans h.size hg.size, h.head, h.ends⟩, ho, .inr ⟨wx.heap.size, rfl, ?_⟩⟩
  · cases (Value.slice a T cap).ownBlock <;> simp
  · rcases h.owns.block_lt with e | ⟨g, e, _, hl⟩
    · exact .inl e
    · exact .inr ⟨g, e, by omega⟩

theorem Two.step {H : Nat} {w wx w' : World} {a : Option Addr} {T cap : Nat} {t : List Int} {v v' : Value} {d d' : List Int} (h : Two H w wx a T cap t v d) (hg : Grew H wx v w' v' d') : Two H w w' a T cap t v' d' := by
  refine ⟨⟨h.tok.len, keep_row h.tok.owns hg.by_ h.apart, h.tok.below.trans (hg.below h.data h.tok.size), Nat.le_trans h.tok.size hg.by_.size, h.tok.head, h.tok.ends⟩, hg.owns, ?_⟩
  rcases hg.at_ with e | ⟨g, e, hl⟩
  · rw [e]; exact h.apart
  · refine .inr ⟨g, e, ?_⟩
    rcases h.tok.owns.block_lt with e2 | ⟨k, e2, _, hk⟩
    · exact .inl e2
    · exact .inr ⟨k, e2, by omega⟩

theorem val_cont {H : Nat} {w wx : World} {a : Option Addr} {T cap i : Nat} {p t r : List Int} (h : Bod H w wx a T cap t) (hp : p.length = i) : Hid (valEnd ((([] ++ p) ++ t) ++ r) i = i + T) := by
  obtain ⟨c, o', ht, hc⟩ := h.head
  have h1 := valEnd_cont p t r c o' ht hc h.ends
  rw [hp, h.len] at h1
  show valEnd ((([] ++ p) ++ t) ++ r) i = i + T
  rw [← h1]
  simp

set_option maxHeartbeats 1000000 in
theorem walk_in (a0 : Option Addr) (len0 cap0 : Nat) (p : List Int) (a1 : Option Addr) (len1 cap1 : Nat) (q : List Int) (a2 : Option Addr) (len2 cap2 : Nat) (r : List Int) (w : World)
    (Hp : Hid (p.length = len0)) (Hq : Hid (q.length = len1)) (Hr : Hid (r.length = len2)) (Hps : Hid (Src w a0 len0 cap0 p)) (Hrs : Hid (Src w a2 len2 cap2 r)) (hlen : len0 + len1 + len2 ≤ 1048576) (hl1 : len1 ≤ 32768)
    (Hw : Hid (∀ c ∈ q, 0 ≤ c ∧ c ≤ 255))
    (Hqs : Hid (0 < len1 → ∃ b off, a1 = some ⟨b, off, none⟩ ∧ ∀ w', Below w.heap.size w w' → ∀ j, j < len1 → w'.cell? ⟨b, off + j, none⟩ = some (.int .u8 (q.getD j 0)))) :
    Calls Trym.prog 4 #[.slice a0 len0 cap0, .slice a1 len1 cap1, .slice a2 len2 cap2] w fun e w' => e = .returned (.bool true) ∧ Below w.heap.size w w' := by
  obtain ⟨i0, hi0, hz0, hz1, hz2⟩ := info_parts info5
  go_enter Trym.func4, Trym.ntmps4
  go_wp2_with (first
    | (go_at_call 9; go_in)
    | (go_at_call 10; refine (build_any a1 len1 cap1 q w Hq hl1 Hw Hqs).mono ?_; rintro e w3 ⟨v3, rfl, hB⟩; obtain ⟨aT, T, capT, t, rfl, hT, hT0, hTok⟩ := bod_of hB; clear hB)
    | (at_make; refine wpList_make_own _ rfl _ (.tmp 49) 22 rfl w.heap.size 5 i0 (.int .u8 0) 1 Trym.underlying22 hi0 hz0 hz1 _ _ _ (len0 + T + len2) rfl rfl (by omega) (by rw [hz2]; omega) (by unfold maxLen; omega) hTok.size ?_; intro w4 hown hgrow; have hS4 := Two.start hTok hown hgrow; clear hown hgrow)
    | (at_builtin; refine app_any w4 w4 rfl (.tmp 51) (.tmp 52) rfl w.heap.size _ [] rfl hS4.data (World.grownBy.refl _ _) a0 len0 cap0 p rfl Hp.out (Hps.out w4 hS4.tok.below) (by simp; omega) hS4.tok.size ?_; intro v5 w5 hg5; have hS5 := hS4.step hg5; obtain ⟨a5, cap5, rfl⟩ := LawB.form_of (n := len0) hg5.owns (by rw [List.nil_append]; exact Hp.out); clear hg5 hS4)
    | (at_builtin; refine app_any w5 w5 rfl (.tmp 56) (.tmp 57) rfl w.heap.size _ ([] ++ p) rfl hS5.data (World.grownBy.refl _ _) aT T capT t rfl hS5.tok.len hS5.tok.owns.src (by rw [List.nil_append, Hp.out]; omega) hS5.tok.size ?_; intro v6 w6 hg6; have hS6 := hS5.step hg6; have Hlen6 : Hid ((([] ++ p) ++ t).length = len0 + T) := (by show _ = _; rw [List.nil_append, List.length_append, Hp.out, hTok.len]); clear hg6 hS5)
    | (at_builtin; refine app_any w6 w6 rfl (.tmp 59) (.tmp 60) rfl w.heap.size _ (([] ++ p) ++ t) (by rfl) hS6.data (World.grownBy.refl _ _) a2 len2 cap2 r rfl Hr.out (Hrs.out w6 hS6.tok.below) (by rw [Hlen6.out]; omega) hS6.tok.size ?_; intro v8 w8 hg8; have hS8 := hS6.step hg8; have Hlen8 : Hid (((([] ++ p) ++ t) ++ r).length = len0 + T + len2) := (by show _ = _; rw [List.length_append, Hlen6.out, Hr.out]); obtain ⟨g8, cap8, rfl, hcells⟩ := LawB.open_of (n := len0 + T + len2) hg8.owns Hlen8.out (by omega); clear hg8 hS6)
    | (go_at_call 7; refine (zzSkip_to g8 cap8 len0 (len0 + T + len2) (len0 + T) _ _ Hlen8 (by omega) (by omega) hcells (val_cont hTok Hp.out)).mono ?_; rintro e w' ⟨rfl, rfl⟩))
  go_ret
  exact ⟨rfl, hS8.tok.below⟩
theorem walk_A (a0 : Option Addr) (len0 cap0 : Nat) (a1 : Option Addr) (len1 cap1 : Nat) (a2 : Option Addr) (len2 cap2 : Nat) (w : World) (h : 1048576 < len0) (hm : len0 ≤ 9223372036854775807) :
    Calls Trym.prog 4 #[.slice a0 len0 cap0, .slice a1 len1 cap1, .slice a2 len2 cap2] w fun e w' => e = .returned (.bool true) ∧ Below w.heap.size w w' := by
  go_enter Trym.func4, Trym.ntmps4
  go_wp2
  go_ret
  exact ⟨rfl, Below.refl _ _⟩
theorem walk_B (a0 : Option Addr) (len0 cap0 : Nat) (a1 : Option Addr) (len1 cap1 : Nat) (a2 : Option Addr) (len2 cap2 : Nat) (w : World) (h0 : len0 ≤ 1048576) (h : 1048576 < len1) (hm : len1 ≤ 9223372036854775807) :
    Calls Trym.prog 4 #[.slice a0 len0 cap0, .slice a1 len1 cap1, .slice a2 len2 cap2] w fun e w' => e = .returned (.bool true) ∧ Below w.heap.size w w' := by
  go_enter Trym.func4, Trym.ntmps4
  go_wp2
  go_ret
  exact ⟨rfl, Below.refl _ _⟩
theorem walk_C (a0 : Option Addr) (len0 cap0 : Nat) (a1 : Option Addr) (len1 cap1 : Nat) (a2 : Option Addr) (len2 cap2 : Nat) (w : World) (h0 : len0 ≤ 1048576) (h1 : len1 ≤ 1048576) (h : 1048576 < len0 + len1) :
    Calls Trym.prog 4 #[.slice a0 len0 cap0, .slice a1 len1 cap1, .slice a2 len2 cap2] w fun e w' => e = .returned (.bool true) ∧ Below w.heap.size w w' := by
  go_enter Trym.func4, Trym.ntmps4
  go_wp2
  go_ret
  exact ⟨rfl, Below.refl _ _⟩
theorem walk_D (a0 : Option Addr) (len0 cap0 : Nat) (a1 : Option Addr) (len1 cap1 : Nat) (a2 : Option Addr) (len2 cap2 : Nat) (w : World) (h1 : len0 + len1 ≤ 1048576) (h : 1048576 < len2) (hm : len2 ≤ 9223372036854775807) :
    Calls Trym.prog 4 #[.slice a0 len0 cap0, .slice a1 len1 cap1, .slice a2 len2 cap2] w fun e w' => e = .returned (.bool true) ∧ Below w.heap.size w w' := by
  go_enter Trym.func4, Trym.ntmps4
  go_wp2
  go_ret
  exact ⟨rfl, Below.refl _ _⟩
theorem walk_E (a0 : Option Addr) (len0 cap0 : Nat) (a1 : Option Addr) (len1 cap1 : Nat) (a2 : Option Addr) (len2 cap2 : Nat) (w : World) (h1 : len0 + len1 ≤ 1048576) (h2 : len2 ≤ 1048576) (h : 1048576 < len0 + len1 + len2) :
    Calls Trym.prog 4 #[.slice a0 len0 cap0, .slice a1 len1 cap1, .slice a2 len2 cap2] w fun e w' => e = .returned (.bool true) ∧ Below w.heap.size w w' := by
  go_enter Trym.func4, Trym.ntmps4
  go_wp2
  go_ret
  exact ⟨rfl, Below.refl _ _⟩
theorem walk_F (a0 : Option Addr) (len0 cap0 : Nat) (a1 : Option Addr) (len1 cap1 : Nat) (a2 : Option Addr) (len2 cap2 : Nat) (w : World) (h1 : len0 + len1 + len2 ≤ 1048576) (h : 32768 < len1) :
    Calls Trym.prog 4 #[.slice a0 len0 cap0, .slice a1 len1 cap1, .slice a2 len2 cap2] w fun e w' => e = .returned (.bool true) ∧ Below w.heap.size w w' := by
  go_enter Trym.func4, Trym.ntmps4
  go_wp2
  go_ret
  exact ⟨rfl, Below.refl _ _⟩

theorem walk_all (a0 : Option Addr) (len0 cap0 : Nat) (p : List Int) (a1 : Option Addr) (len1 cap1 : Nat) (q : List Int) (a2 : Option Addr) (len2 cap2 : Nat) (r : List Int) (w : World)
    (Hp : p.length = len0) (Hq : q.length = len1) (Hr : r.length = len2) (Hps : Src w a0 len0 cap0 p) (Hrs : Src w a2 len2 cap2 r) (hm0 : len0 ≤ 9223372036854775807) (hm1 : len1 ≤ 9223372036854775807) (hm2 : len2 ≤ 9223372036854775807)
    (Hw : ∀ c ∈ q, 0 ≤ c ∧ c ≤ 255)
    (Hqs : 0 < len1 → ∃ b off, a1 = some ⟨b, off, none⟩ ∧ ∀ w', Below w.heap.size w w' → ∀ j, j < len1 → w'.cell? ⟨b, off + j, none⟩ = some (.int .u8 (q.getD j 0))) :
    Calls Trym.prog 4 #[.slice a0 len0 cap0, .slice a1 len1 cap1, .slice a2 len2 cap2] w fun e w' => e = .returned (.bool true) ∧ Below w.heap.size w w' := by
  by_cases hA : 1048576 < len0
  · exact walk_A a0 len0 cap0 a1 len1 cap1 a2 len2 cap2 w hA hm0
  by_cases hB : 1048576 < len1
  · exact walk_B a0 len0 cap0 a1 len1 cap1 a2 len2 cap2 w (by omega) hB hm1
  by_cases hC : 1048576 < len0 + len1
  · exact walk_C a0 len0 cap0 a1 len1 cap1 a2 len2 cap2 w (by omega) (by omega) hC
  by_cases hD : 1048576 < len2
  · exact walk_D a0 len0 cap0 a1 len1 cap1 a2 len2 cap2 w (by omega) hD hm2
  by_cases hE : 1048576 < len0 + len1 + len2
  · exact walk_E a0 len0 cap0 a1 len1 cap1 a2 len2 cap2 w (by omega) (by omega) hE
  by_cases hF : 32768 < len1
  · exact walk_F a0 len0 cap0 a1 len1 cap1 a2 len2 cap2 w (by omega) hF
  exact walk_in a0 len0 cap0 p a1 len1 cap1 q a2 len2 cap2 r w Hp Hq Hr Hps Hrs (by omega) (by omega) Hw Hqs
end Go.Proofs.Qxb6606310aMods.LawC
