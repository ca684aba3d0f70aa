import Derived.Test.Qxb6606310aModsWalkA
import Derived.Test.Qxb6606310aModsOnto
import Derived.Test.Qxb6606310aModsPlain2
namespace Go.Proofs.Qxb6606310aMods.LawB
open Go.RowKit Plain Onto
set_option linter.unusedVariables false

/-- The source of an append that came in as an argument: it is there in every later world. -/
def Src (w : World) (a : Option Addr) (n cap : Nat) (p : List Int) : Prop :=
  ∀ w', Below w.heap.size w w' → (a = none ∧ n = 0 ∧ cap = 0) ∨ ∃ ad, a = some ad ∧ ∀ j u, (cellsOf p)[j]? = some u → w'.cell? (ad.add j) = some u

theorem src_nil (w : World) : Src w none 0 0 [] := fun _ _ => .inl ⟨rfl, rfl, rfl⟩
theorem src_row {w : World} {x : Addr} {n cap : Nat} {z : List Int} (hn : n ≤ cap) (hz : z.length = cap) (hc : ∀ i, i < z.length → w.cell? (x.add i) = some (.int .u8 (z.getD i 0))) : Src w (some x) n cap (z.take n) := by
  intro w' hb
  refine .inr ⟨x, rfl, fun j u hu => ?_⟩
  have hj : j < (cellsOf (z.take n)).length := (List.getElem?_eq_some_iff.1 hu).1
  rw [length_cellsOf, List.length_take] at hj
  have hcj := hc j (by omega)
  rw [hb.cell (p := x.add j) (block_lt_of_cell hcj), hcj]
  simp [cellsOf, show j < n by omega, List.getElem?_eq_getElem (show j < z.length by omega)] at hu
  rw [← hu]
  simp [List.getElem?_eq_getElem (show j < z.length by omega)]

/-- The token's slice stays while another row of the call's own grows. -/
theorem keep_row {base : Nat} {w w' : World} {v v2 : Value} {bs : List Int} (h : Owns base w v bs) (hg : w.grownBy w' v2.ownBlock) (h1 : v2.ownBlock = none ∨ ∃ g, v2.ownBlock = some g ∧ (v.ownBlock = none ∨ ∃ k, v.ownBlock = some k ∧ k ≠ g)) : Owns base w' v bs := by
  refine h.kept hg ?_
  rcases h1 with e | ⟨g, e, e2 | ⟨k, e2, hk⟩⟩
  · rw [e]; cases v.ownBlock <;> simp
  · exact .inl e2
  · rw [e, e2]; right; intro e3; injection e3 with e3; exact hk e3

/-- The token's slice, as the walk has it. -/
structure Tok (H : Nat) (w wx : World) (a : Option Addr) (T cap : Nat) (t : List Int) : Prop where
  len : t.length = T
  owns : Owns H wx (.slice a T cap) t
  below : Below H w wx
  size : H ≤ wx.heap.size
  ne : t ≠ []
  calm : ∀ c ∈ t, stopB c = false

theorem form_of {base : Nat} {w : World} {v : Value} {bs : List Int} {n : Nat} (h : Owns base w v bs) (hn : bs.length = n) : ∃ a cap, v = .slice a n cap := by
  subst hn; exact h.form

theorem tok_num {w w1 w2 w3 : World} {v1 v2 v3 : Value} {d1 d2 : List Int} (hb1 : Below w.heap.size w w1) (hs1 : w.heap.size ≤ w1.heap.size) (ho1 : Owns w.heap.size w1 v1 [])
    (hg2 : Grew w.heap.size w1 v1 w2 v2 ([] ++ d1)) (hg3 : Grew w.heap.size w2 v2 w3 v3 (([] ++ d1) ++ d2)) (hne : d1 ≠ []) (hc1 : Hid (Onto.Calm d1)) (hc2 : Hid (Onto.Calm d2)) :
    ∃ a T cap t, v3 = .slice a T cap ∧ T ≤ 42 ∧ Tok w.heap.size w w3 a T cap t := by
  obtain ⟨a, cap, e⟩ := hg3.owns.form
  refine ⟨a, _, cap, d1 ++ d2, e, ?_, rfl, ?_, hb1.trans ((hg2.trans hg3).below ho1 hs1), Nat.le_trans hs1 (hg2.trans hg3).by_.size, by simp [hne], ?_⟩
  · have := hc1.out.1; have := hc2.out.1; simp; omega
  · rw [← e]; exact hg3.owns
  · intro c hc
    rcases List.mem_append.1 hc with h | h
    · exact hc1.out.2 c h
    · exact hc2.out.2 c h

theorem tok_lit {w w1 w2 : World} {v1 v2 : Value} {d1 : List Int} (hb1 : Below w.heap.size w w1) (hs1 : w.heap.size ≤ w1.heap.size) (ho1 : Owns w.heap.size w1 v1 [])
    (hg2 : Grew w.heap.size w1 v1 w2 v2 ([] ++ d1)) (hne : d1 ≠ []) (hc1 : Hid (Onto.Calm d1)) :
    ∃ a T cap t, v2 = .slice a T cap ∧ T ≤ 42 ∧ Tok w.heap.size w w2 a T cap t := by
  obtain ⟨a, cap, e⟩ := hg2.owns.form
  refine ⟨a, _, cap, d1, e, ?_, rfl, ?_, hb1.trans (hg2.below ho1 hs1), Nat.le_trans hs1 hg2.by_.size, hne, hc1.out.2⟩
  · have := hc1.out.1; simp; omega
  · rw [← e]; exact hg2.owns

/-- Token and data side by side. -/
structure Two (H : Nat) (w wx : World) (a : Option Addr) (T cap : Nat) (t : List Int) (v : Value) (d : List Int) : Prop where
  tok : Tok H w wx a T cap t
  data : Owns H wx v d
  apart : v.ownBlock = none ∨ ∃ g, v.ownBlock = some g ∧ ((Value.slice a T cap).ownBlock = none ∨ ∃ k, (Value.slice a T cap).ownBlock = some k ∧ k ≠ g)

theorem Two.start {H : Nat} {w wx w' : World} {a : Option Addr} {T cap n : Nat} {t : List Int} (h : Tok H w wx a T cap t) (ho : w'.ownsRow H 5 1 (.slice (some ⟨wx.heap.size, 0, none⟩) 0 n) 0 []) (hg : wx.grownBy w' none) :
    Two H w w' a T cap t (.slice (some ⟨wx.heap.size, 0, none⟩) 0 n) [] := by
  refine ⟨⟨h.len, h.owns.kept hg ?_, h.below.grown hg h.size (by simp), Nat.le_trans h.size hg.size, h.ne, h.calm⟩, ho, .inr ⟨wx.heap.size, rfl, ?_⟩⟩
  · cases (Value.slice a T cap).ownBlock <;> simp
  · rcases h.owns.block_lt with e | ⟨g, e, _, hl⟩
    · exact .inl e
    · exact .inr ⟨g, e, by omega⟩

theorem Two.step {H : Nat} {w wx w' : World} {a : Option Addr} {T cap : Nat} {t : List Int} {v v' : Value} {d d' : List Int} (h : Two H w wx a T cap t v d) (hg : Grew H wx v w' v' d') : Two H w w' a T cap t v' d' := by
  refine ⟨⟨h.tok.len, keep_row h.tok.owns hg.by_ h.apart, h.tok.below.trans (hg.below h.data h.tok.size), Nat.le_trans h.tok.size hg.by_.size, h.tok.ne, h.tok.calm⟩, hg.owns, ?_⟩
  rcases hg.at_ with e | ⟨g, e, hl⟩
  · rw [e]; exact h.apart
  · refine .inr ⟨g, e, ?_⟩
    rcases h.tok.owns.block_lt with e2 | ⟨k, e2, _, hk⟩
    · exact .inl e2
    · exact .inr ⟨k, e2, by omega⟩

theorem two_token {H : Nat} {w w5 w6 : World} {a : Option Addr} {T cap len0 : Nat} {t p : List Int} {v5 v6 : Value} (h : Two H w w5 a T cap t v5 ([] ++ p)) (hg : Grew H w5 v5 w6 v6 (([] ++ p) ++ t)) (Hp : Hid (p.length = len0)) (hl : len0 ≤ 1048576) (hT : T ≤ 42) :
    ∃ E a6 cap6, v6 = .slice a6 E cap6 ∧ Two H w w6 a T cap t v6 (([] ++ p) ++ t) ∧ Hid (E = len0 + t.length) ∧ E ≤ 1048618 ∧ len0 < E ∧ Hid ((([] ++ p) ++ t).length = E) := by
  have h1 := Hp.out
  have h2 := h.tok.len
  have h3 := List.length_pos_iff.2 h.tok.ne
  have e : (([] ++ p) ++ t).length = len0 + t.length := by simp; omega
  obtain ⟨a6, cap6, hv⟩ := hg.owns.form
  rw [e] at hv
  exact ⟨_, a6, cap6, hv, h.step hg, rfl, by omega, by omega, e⟩

theorem zzSkip_to (b cap i n E : Nat) (d : List Int) (w : World) (Hn : Hid (d.length = n)) (hN : n ≤ 1073741824) (hi : i ≤ n)
    (hc : ∀ j, j < n → w.cell? ⟨b, 0 + j, none⟩ = some (.int .u8 (d.getD j 0))) (hE : Hid (valEnd d i = E)) :
    Calls Trym.prog 7 #[.slice (some ⟨b, 0, none⟩) n cap, .int .i64 i] w fun e w' => e = .returned (.int .i64 E) ∧ w' = w := by
  have h := zzSkip_any b 0 cap i n d w Hn hN hi hc
  rw [hE.out] at h
  exact h

theorem open_of {base : Nat} {w : World} {v : Value} {bs : List Int} {n : Nat} (h : Owns base w v bs) (hn : bs.length = n) (h0 : 0 < n) :
    ∃ g cap, v = .slice (some ⟨g, 0, none⟩) n cap ∧ ∀ j, j < n → w.cell? ⟨g, 0 + j, none⟩ = some (.int .u8 (bs.getD j 0)) := by
  subst hn
  exact h.open (fun e => by simp [e] at h0)

theorem val_end {p t : List Int} {i E : Nat} (hp : p.length = i) (hne : t ≠ []) (ht : ∀ c ∈ t, stopB c = false) (hE : Hid (E = i + t.length)) : Hid (valEnd (([] ++ p) ++ t) i = E) := by
  have h := valEnd_scal p t [] hne ht (.inl rfl)
  rw [hp] at h
  show valEnd (([] ++ p) ++ t) i = E
  rw [hE.out, ← h]
  simp

theorem val_more {p t r : List Int} {i E : Nat} {c : Int} (hp : p.length = i) (hne : t ≠ []) (ht : ∀ c ∈ t, stopB c = false) (hc : Hid (stopB c = true)) (hE : Hid (E = i + t.length)) : Hid (valEnd (((([] ++ p) ++ t) ++ [c]) ++ r) i = E) := by
  have h := valEnd_scal p t ([c] ++ r) hne ht (.inr ⟨c, r, rfl, hc.out⟩)
  rw [hp] at h
  show valEnd (((([] ++ p) ++ t) ++ [c]) ++ r) i = E
  rw [hE.out, ← h]
  simp

set_option maxHeartbeats 1000000 in
theorem walk_num_more (a0 : Option Addr) (len0 cap0 : Nat) (p : List Int) (a1 a2 a3 : Int) (a4 : Option Addr) (len4 cap4 : Nat) (r : List Int) (w : World)
    (Hp : Hid (p.length = len0)) (Hr : Hid (r.length = len4)) (Hps : Hid (Src w a0 len0 cap0 p)) (Hrs : Hid (Src w a4 len4 cap4 r)) (hlen : len0 + len4 ≤ 1048576)
    (h11 : -9223372036854775808 ≤ a1) (h12 : a1 ≤ 9223372036854775807) (h21 : 0 ≤ a2) (h22 : a2 ≤ 255) (h31 : 0 ≤ a3) (h32 : a3 ≤ 255) (ht : a2 % 7 < 5) (h7 : a3 % 8 ≠ 7) :
    Calls Trym.prog 5 #[.slice a0 len0 cap0, .int .i64 a1, .int .u8 a2, .int .u8 a3, .slice a4 len4 cap4] w fun e w' => e = .returned (.bool true) ∧ Below w.heap.size w w' := by
  obtain ⟨i0, hi0, hz0, hz1, hz2⟩ := info_parts info5
  go_enter Trym.func5, Trym.ntmps5
  go_wp2_with (first
    | (at_make; refine wpList_make_own _ rfl _ (.const (.int .i64 40)) 22 rfl w.heap.size 5 i0 (.int .u8 0) 1 Trym.underlying22 hi0 hz0 hz1 _ _ _ 40 rfl rfl rfl (by rw [hz2]; omega) (by unfold maxLen; omega) (Nat.le_refl _) ?_; intro w1 hown hgrow; have ho1 : Owns w.heap.size w1 (.slice (some ⟨w.heap.size, 0, none⟩) 0 40) [] := hown; have hb1 := (Below.refl w.heap.size w).grown hgrow (Nat.le_refl _) (by simp); have hs1 := hgrow.size; clear hown hgrow)
    | (go_at_call 11; go_in)
    | (go_at_call 12; refine (int_any w.heap.size _ [] a1 _ ho1 hs1 (by simp) h11 h12).mono ?_; rintro e w2 ⟨v2, d1, rfl, hg2, hne, hc1⟩)
    | (go_at_call 13; refine (tail_any w.heap.size _ ([] ++ d1) _ _ hg2.owns (Nat.le_trans hs1 hg2.by_.size) (by have := hc1.out.1; simp; omega)).mono ?_; rintro e w3 ⟨v3, d2, rfl, hg3, hc2⟩; obtain ⟨aT, T, capT, t, rfl, hT, hTok⟩ := tok_num hb1 hs1 ho1 hg2 hg3 hne hc1 hc2; clear hg2 hg3 hne hc1 hc2 ho1)
    | (at_make; refine wpList_make_own _ rfl _ (.tmp 62) 22 rfl w.heap.size 5 i0 (.int .u8 0) 1 Trym.underlying22 hi0 hz0 hz1 _ _ _ (len0 + T + 1 + len4) rfl rfl (by omega) (by rw [hz2]; omega) (by unfold maxLen; omega) hTok.size ?_; intro w4 hown hgrow; have hS4 := Two.start hTok hown hgrow; clear hown hgrow hb1 hs1)
    | (at_builtin; refine app_any w4 w4 rfl (.tmp 64) (.tmp 65) rfl w.heap.size _ [] rfl hS4.data (World.grownBy.refl _ _) a0 len0 cap0 p rfl Hp.out (Hps.out w4 hS4.tok.below) (by simp; omega) hS4.tok.size ?_; intro v5 w5 hg5; have hS5 := hS4.step hg5; obtain ⟨a5, cap5, rfl⟩ := form_of (n := len0) hg5.owns (by rw [List.nil_append]; exact Hp.out); clear hg5 hS4)
    | (at_builtin; refine app_any w5 w5 rfl (.tmp 69) (.tmp 70) rfl w.heap.size _ ([] ++ p) rfl hS5.data (World.grownBy.refl _ _) aT T capT t rfl hS5.tok.len hS5.tok.owns.src (by rw [List.nil_append, Hp.out]; omega) hS5.tok.size ?_; intro v6 w6 hg6; obtain ⟨E, a6, cap6, rfl, hS6, HE, hEle, hEi, Hlen6⟩ := two_token hS5 hg6 Hp (by omega) hT; clear hg6 hS5)
    | (go_at_call 15; refine (foll_some a3 _ h31 h32 h7).mono ?_; rintro e w' ⟨c, rfl, rfl, hstop⟩)
    | (at_builtin; refine app_lit _ rfl (.tmp 80) (.tmp 82) rfl w.heap.size _ (([] ++ p) ++ t) rfl hS6.data 1 [c] rfl rfl (by rw [Hlen6.out]; omega) hS6.tok.size ?_; intro v7 w7 hg7; have hS7 := hS6.step hg7; clear hg7 hS6)
    | (at_builtin; refine app_any w7 w7 rfl (.tmp 84) (.tmp 85) rfl w.heap.size _ ((([] ++ p) ++ t) ++ [c]) rfl hS7.data (World.grownBy.refl _ _) a4 len4 cap4 r rfl Hr.out (Hrs.out w7 hS7.tok.below) (by rw [List.length_append, Hlen6.out]; simp; omega) hS7.tok.size ?_; intro v8 w8 hg8; have hS8 := hS7.step hg8; have Hlen8 : Hid ((((([] ++ p) ++ t) ++ [c]) ++ r).length = E + 1 + len4) := (by show _ = _; rw [List.length_append, List.length_append, Hlen6.out, Hr.out]; rfl); obtain ⟨g8, cap8, rfl, hcells⟩ := open_of (n := E + 1 + len4) hg8.owns Hlen8.out (by omega); clear hg8 hS7)
    | (go_at_call 7; refine (zzSkip_to g8 cap8 len0 (E + 1 + len4) E _ _ Hlen8 (by omega) (by omega) hcells (val_more Hp.out hTok.ne hTok.calm hstop HE)).mono ?_; rintro e w' ⟨rfl, rfl⟩))
  go_ret
  exact ⟨rfl, hS8.tok.below⟩

set_option maxHeartbeats 1000000 in
theorem walk_num_end (a0 : Option Addr) (len0 cap0 : Nat) (p : List Int) (a1 a2 a3 : Int) (a4 : Option Addr) (len4 cap4 : Nat) (r : List Int) (w : World)
    (Hp : Hid (p.length = len0)) (Hr : Hid (r.length = len4)) (Hps : Hid (Src w a0 len0 cap0 p)) (Hrs : Hid (Src w a4 len4 cap4 r)) (hlen : len0 + len4 ≤ 1048576)
    (h11 : -9223372036854775808 ≤ a1) (h12 : a1 ≤ 9223372036854775807) (h21 : 0 ≤ a2) (h22 : a2 ≤ 255) (h31 : 0 ≤ a3) (h32 : a3 ≤ 255) (ht : a2 % 7 < 5) (h7 : a3 % 8 = 7) :
    Calls Trym.prog 5 #[.slice a0 len0 cap0, .int .i64 a1, .int .u8 a2, .int .u8 a3, .slice a4 len4 cap4] w fun e w' => e = .returned (.bool true) ∧ Below w.heap.size w w' := by
  obtain ⟨i0, hi0, hz0, hz1, hz2⟩ := info_parts info5
  go_enter Trym.func5, Trym.ntmps5
  go_wp2_with (first
    | (at_make; refine wpList_make_own _ rfl _ (.const (.int .i64 40)) 22 rfl w.heap.size 5 i0 (.int .u8 0) 1 Trym.underlying22 hi0 hz0 hz1 _ _ _ 40 rfl rfl rfl (by rw [hz2]; omega) (by unfold maxLen; omega) (Nat.le_refl _) ?_; intro w1 hown hgrow; have ho1 : Owns w.heap.size w1 (.slice (some ⟨w.heap.size, 0, none⟩) 0 40) [] := hown; have hb1 := (Below.refl w.heap.size w).grown hgrow (Nat.le_refl _) (by simp); have hs1 := hgrow.size; clear hown hgrow)
    | (go_at_call 11; go_in)
    | (go_at_call 12; refine (int_any w.heap.size _ [] a1 _ ho1 hs1 (by simp) h11 h12).mono ?_; rintro e w2 ⟨v2, d1, rfl, hg2, hne, hc1⟩)
    | (go_at_call 13; refine (tail_any w.heap.size _ ([] ++ d1) _ _ hg2.owns (Nat.le_trans hs1 hg2.by_.size) (by have := hc1.out.1; simp; omega)).mono ?_; rintro e w3 ⟨v3, d2, rfl, hg3, hc2⟩; obtain ⟨aT, T, capT, t, rfl, hT, hTok⟩ := tok_num hb1 hs1 ho1 hg2 hg3 hne hc1 hc2; clear hg2 hg3 hne hc1 hc2 ho1)
    | (at_make; refine wpList_make_own _ rfl _ (.tmp 62) 22 rfl w.heap.size 5 i0 (.int .u8 0) 1 Trym.underlying22 hi0 hz0 hz1 _ _ _ (len0 + T + 1 + len4) rfl rfl (by omega) (by rw [hz2]; omega) (by unfold maxLen; omega) hTok.size ?_; intro w4 hown hgrow; have hS4 := Two.start hTok hown hgrow; clear hown hgrow hb1 hs1)
    | (at_builtin; refine app_any w4 w4 rfl (.tmp 64) (.tmp 65) rfl w.heap.size _ [] rfl hS4.data (World.grownBy.refl _ _) a0 len0 cap0 p rfl Hp.out (Hps.out w4 hS4.tok.below) (by simp; omega) hS4.tok.size ?_; intro v5 w5 hg5; have hS5 := hS4.step hg5; obtain ⟨a5, cap5, rfl⟩ := form_of (n := len0) hg5.owns (by rw [List.nil_append]; exact Hp.out); clear hg5 hS4)
    | (at_builtin; refine app_any w5 w5 rfl (.tmp 69) (.tmp 70) rfl w.heap.size _ ([] ++ p) rfl hS5.data (World.grownBy.refl _ _) aT T capT t rfl hS5.tok.len hS5.tok.owns.src (by rw [List.nil_append, Hp.out]; omega) hS5.tok.size ?_; intro v6 w6 hg6; obtain ⟨E, a6, cap6, rfl, hS6, HE, hEle, hEi, Hlen6⟩ := two_token hS5 hg6 Hp (by omega) hT; clear hg6 hS5)
    | (go_at_call 15; refine (foll_none a3 _ h31 h32 h7).mono ?_; rintro e w' ⟨rfl, rfl⟩; obtain ⟨g6, cap9, hv6, hcells⟩ := open_of (n := E) hS6.data Hlen6.out (by omega); simp only [Value.slice.injEq] at hv6; obtain ⟨rfl, -, rfl⟩ := hv6)
    | (go_at_call 7; refine (zzSkip_to g6 _ len0 E E _ _ Hlen6 (by omega) (by omega) hcells (val_end Hp.out hTok.ne hTok.calm HE)).mono ?_; rintro e w' ⟨rfl, rfl⟩))
  go_ret
  exact ⟨rfl, hS6.tok.below⟩

set_option maxHeartbeats 1000000 in
theorem walk_lit_more (a0 : Option Addr) (len0 cap0 : Nat) (p : List Int) (a1 a2 a3 : Int) (a4 : Option Addr) (len4 cap4 : Nat) (r : List Int) (w : World)
    (Hp : Hid (p.length = len0)) (Hr : Hid (r.length = len4)) (Hps : Hid (Src w a0 len0 cap0 p)) (Hrs : Hid (Src w a4 len4 cap4 r)) (hlen : len0 + len4 ≤ 1048576)
    (h11 : -9223372036854775808 ≤ a1) (h12 : a1 ≤ 9223372036854775807) (h21 : 0 ≤ a2) (h22 : a2 ≤ 255) (h31 : 0 ≤ a3) (h32 : a3 ≤ 255) (ht : 5 ≤ a2 % 7) (h7 : a3 % 8 ≠ 7) :
    Calls Trym.prog 5 #[.slice a0 len0 cap0, .int .i64 a1, .int .u8 a2, .int .u8 a3, .slice a4 len4 cap4] w fun e w' => e = .returned (.bool true) ∧ Below w.heap.size w w' := by
  obtain ⟨i0, hi0, hz0, hz1, hz2⟩ := info_parts info5
  go_enter Trym.func5, Trym.ntmps5
  go_wp2_with (first
    | (at_make; refine wpList_make_own _ rfl _ (.const (.int .i64 40)) 22 rfl w.heap.size 5 i0 (.int .u8 0) 1 Trym.underlying22 hi0 hz0 hz1 _ _ _ 40 rfl rfl rfl (by rw [hz2]; omega) (by unfold maxLen; omega) (Nat.le_refl _) ?_; intro w1 hown hgrow; have ho1 : Owns w.heap.size w1 (.slice (some ⟨w.heap.size, 0, none⟩) 0 40) [] := hown; have hb1 := (Below.refl w.heap.size w).grown hgrow (Nat.le_refl _) (by simp); have hs1 := hgrow.size; clear hown hgrow)
    | (go_at_call 11; go_in)
    | (go_at_call 14; refine (lit_any w.heap.size _ [] _ _ ho1 hs1 (by simp)).mono ?_; rintro e w3 ⟨v3, d1, rfl, hg3, hne, hc1⟩; obtain ⟨aT, T, capT, t, rfl, hT, hTok⟩ := tok_lit hb1 hs1 ho1 hg3 hne hc1; clear hg3 hne hc1 ho1)
    | (at_make; refine wpList_make_own _ rfl _ (.tmp 62) 22 rfl w.heap.size 5 i0 (.int .u8 0) 1 Trym.underlying22 hi0 hz0 hz1 _ _ _ (len0 + T + 1 + len4) rfl rfl (by omega) (by rw [hz2]; omega) (by unfold maxLen; omega) hTok.size ?_; intro w4 hown hgrow; have hS4 := Two.start hTok hown hgrow; clear hown hgrow hb1 hs1)
    | (at_builtin; refine app_any w4 w4 rfl (.tmp 64) (.tmp 65) rfl w.heap.size _ [] rfl hS4.data (World.grownBy.refl _ _) a0 len0 cap0 p rfl Hp.out (Hps.out w4 hS4.tok.below) (by simp; omega) hS4.tok.size ?_; intro v5 w5 hg5; have hS5 := hS4.step hg5; obtain ⟨a5, cap5, rfl⟩ := form_of (n := len0) hg5.owns (by rw [List.nil_append]; exact Hp.out); clear hg5 hS4)
    | (at_builtin; refine app_any w5 w5 rfl (.tmp 69) (.tmp 70) rfl w.heap.size _ ([] ++ p) rfl hS5.data (World.grownBy.refl _ _) aT T capT t rfl hS5.tok.len hS5.tok.owns.src (by rw [List.nil_append, Hp.out]; omega) hS5.tok.size ?_; intro v6 w6 hg6; obtain ⟨E, a6, cap6, rfl, hS6, HE, hEle, hEi, Hlen6⟩ := two_token hS5 hg6 Hp (by omega) hT; clear hg6 hS5)
    | (go_at_call 15; refine (foll_some a3 _ h31 h32 h7).mono ?_; rintro e w' ⟨c, rfl, rfl, hstop⟩)
    | (at_builtin; refine app_lit _ rfl (.tmp 80) (.tmp 82) rfl w.heap.size _ (([] ++ p) ++ t) rfl hS6.data 1 [c] rfl rfl (by rw [Hlen6.out]; omega) hS6.tok.size ?_; intro v7 w7 hg7; have hS7 := hS6.step hg7; clear hg7 hS6)
    | (at_builtin; refine app_any w7 w7 rfl (.tmp 84) (.tmp 85) rfl w.heap.size _ ((([] ++ p) ++ t) ++ [c]) rfl hS7.data (World.grownBy.refl _ _) a4 len4 cap4 r rfl Hr.out (Hrs.out w7 hS7.tok.below) (by rw [List.length_append, Hlen6.out]; simp; omega) hS7.tok.size ?_; intro v8 w8 hg8; have hS8 := hS7.step hg8; have Hlen8 : Hid ((((([] ++ p) ++ t) ++ [c]) ++ r).length = E + 1 + len4) := (by show _ = _; rw [List.length_append, List.length_append, Hlen6.out, Hr.out]; rfl); obtain ⟨g8, cap8, rfl, hcells⟩ := open_of (n := E + 1 + len4) hg8.owns Hlen8.out (by omega); clear hg8 hS7)
    | (go_at_call 7; refine (zzSkip_to g8 cap8 len0 (E + 1 + len4) E _ _ Hlen8 (by omega) (by omega) hcells (val_more Hp.out hTok.ne hTok.calm hstop HE)).mono ?_; rintro e w' ⟨rfl, rfl⟩))
  go_ret
  exact ⟨rfl, hS8.tok.below⟩

set_option maxHeartbeats 1000000 in
theorem walk_lit_end (a0 : Option Addr) (len0 cap0 : Nat) (p : List Int) (a1 a2 a3 : Int) (a4 : Option Addr) (len4 cap4 : Nat) (r : List Int) (w : World)
    (Hp : Hid (p.length = len0)) (Hr : Hid (r.length = len4)) (Hps : Hid (Src w a0 len0 cap0 p)) (Hrs : Hid (Src w a4 len4 cap4 r)) (hlen : len0 + len4 ≤ 1048576)
    (h11 : -9223372036854775808 ≤ a1) (h12 : a1 ≤ 9223372036854775807) (h21 : 0 ≤ a2) (h22 : a2 ≤ 255) (h31 : 0 ≤ a3) (h32 : a3 ≤ 255) (ht : 5 ≤ a2 % 7) (h7 : a3 % 8 = 7) :
    Calls Trym.prog 5 #[.slice a0 len0 cap0, .int .i64 a1, .int .u8 a2, .int .u8 a3, .slice a4 len4 cap4] w fun e w' => e = .returned (.bool true) ∧ Below w.heap.size w w' := by
  obtain ⟨i0, hi0, hz0, hz1, hz2⟩ := info_parts info5
  go_enter Trym.func5, Trym.ntmps5
  go_wp2_with (first
    | (at_make; refine wpList_make_own _ rfl _ (.const (.int .i64 40)) 22 rfl w.heap.size 5 i0 (.int .u8 0) 1 Trym.underlying22 hi0 hz0 hz1 _ _ _ 40 rfl rfl rfl (by rw [hz2]; omega) (by unfold maxLen; omega) (Nat.le_refl _) ?_; intro w1 hown hgrow; have ho1 : Owns w.heap.size w1 (.slice (some ⟨w.heap.size, 0, none⟩) 0 40) [] := hown; have hb1 := (Below.refl w.heap.size w).grown hgrow (Nat.le_refl _) (by simp); have hs1 := hgrow.size; clear hown hgrow)
    | (go_at_call 11; go_in)
    | (go_at_call 14; refine (lit_any w.heap.size _ [] _ _ ho1 hs1 (by simp)).mono ?_; rintro e w3 ⟨v3, d1, rfl, hg3, hne, hc1⟩; obtain ⟨aT, T, capT, t, rfl, hT, hTok⟩ := tok_lit hb1 hs1 ho1 hg3 hne hc1; clear hg3 hne hc1 ho1)
    | (at_make; refine wpList_make_own _ rfl _ (.tmp 62) 22 rfl w.heap.size 5 i0 (.int .u8 0) 1 Trym.underlying22 hi0 hz0 hz1 _ _ _ (len0 + T + 1 + len4) rfl rfl (by omega) (by rw [hz2]; omega) (by unfold maxLen; omega) hTok.size ?_; intro w4 hown hgrow; have hS4 := Two.start hTok hown hgrow; clear hown hgrow hb1 hs1)
    | (at_builtin; refine app_any w4 w4 rfl (.tmp 64) (.tmp 65) rfl w.heap.size _ [] rfl hS4.data (World.grownBy.refl _ _) a0 len0 cap0 p rfl Hp.out (Hps.out w4 hS4.tok.below) (by simp; omega) hS4.tok.size ?_; intro v5 w5 hg5; have hS5 := hS4.step hg5; obtain ⟨a5, cap5, rfl⟩ := form_of (n := len0) hg5.owns (by rw [List.nil_append]; exact Hp.out); clear hg5 hS4)
    | (at_builtin; refine app_any w5 w5 rfl (.tmp 69) (.tmp 70) rfl w.heap.size _ ([] ++ p) rfl hS5.data (World.grownBy.refl _ _) aT T capT t rfl hS5.tok.len hS5.tok.owns.src (by rw [List.nil_append, Hp.out]; omega) hS5.tok.size ?_; intro v6 w6 hg6; obtain ⟨E, a6, cap6, rfl, hS6, HE, hEle, hEi, Hlen6⟩ := two_token hS5 hg6 Hp (by omega) hT; clear hg6 hS5)
    | (go_at_call 15; refine (foll_none a3 _ h31 h32 h7).mono ?_; rintro e w' ⟨rfl, rfl⟩; obtain ⟨g6, cap9, hv6, hcells⟩ := open_of (n := E) hS6.data Hlen6.out (by omega); simp only [Value.slice.injEq] at hv6; obtain ⟨rfl, -, rfl⟩ := hv6)
    | (go_at_call 7; refine (zzSkip_to g6 _ len0 E E _ _ Hlen6 (by omega) (by omega) hcells (val_end Hp.out hTok.ne hTok.calm HE)).mono ?_; rintro e w' ⟨rfl, rfl⟩))
  go_ret
  exact ⟨rfl, hS6.tok.below⟩

theorem walk_long0 (a0 : Option Addr) (len0 cap0 : Nat) (a1 a2 a3 : Int) (a4 : Option Addr) (len4 cap4 : Nat) (w : World) (h0 : 1048576 < len0) (hm : len0 ≤ 9223372036854775807) :
    Calls Trym.prog 5 #[.slice a0 len0 cap0, .int .i64 a1, .int .u8 a2, .int .u8 a3, .slice a4 len4 cap4] w fun e w' => e = .returned (.bool true) ∧ Below w.heap.size w w' := by
  go_enter Trym.func5, Trym.ntmps5
  go_wp2
  go_ret
  exact ⟨rfl, Below.refl _ _⟩
theorem walk_long4 (a0 : Option Addr) (len0 cap0 : Nat) (a1 a2 a3 : Int) (a4 : Option Addr) (len4 cap4 : Nat) (w : World) (h0 : len0 ≤ 1048576) (h4 : 1048576 < len4) (hm : len4 ≤ 9223372036854775807) :
    Calls Trym.prog 5 #[.slice a0 len0 cap0, .int .i64 a1, .int .u8 a2, .int .u8 a3, .slice a4 len4 cap4] w fun e w' => e = .returned (.bool true) ∧ Below w.heap.size w w' := by
  go_enter Trym.func5, Trym.ntmps5
  go_wp2
  go_ret
  exact ⟨rfl, Below.refl _ _⟩
theorem walk_sum (a0 : Option Addr) (len0 cap0 : Nat) (a1 a2 a3 : Int) (a4 : Option Addr) (len4 cap4 : Nat) (w : World) (h0 : len0 ≤ 1048576) (h4 : len4 ≤ 1048576) (hs : 1048576 < len0 + len4) :
    Calls Trym.prog 5 #[.slice a0 len0 cap0, .int .i64 a1, .int .u8 a2, .int .u8 a3, .slice a4 len4 cap4] w fun e w' => e = .returned (.bool true) ∧ Below w.heap.size w w' := by
  go_enter Trym.func5, Trym.ntmps5
  go_wp2
  go_ret
  exact ⟨rfl, Below.refl _ _⟩

theorem walk_all (a0 : Option Addr) (len0 cap0 : Nat) (p : List Int) (a1 a2 a3 : Int) (a4 : Option Addr) (len4 cap4 : Nat) (r : List Int) (w : World)
    (Hp : p.length = len0) (Hr : r.length = len4) (Hps : Src w a0 len0 cap0 p) (Hrs : Src w a4 len4 cap4 r) (hm0 : len0 ≤ 9223372036854775807) (hm4 : len4 ≤ 9223372036854775807)
    (h11 : -9223372036854775808 ≤ a1) (h12 : a1 ≤ 9223372036854775807) (h21 : 0 ≤ a2) (h22 : a2 ≤ 255) (h31 : 0 ≤ a3) (h32 : a3 ≤ 255) :
    Calls Trym.prog 5 #[.slice a0 len0 cap0, .int .i64 a1, .int .u8 a2, .int .u8 a3, .slice a4 len4 cap4] w fun e w' => e = .returned (.bool true) ∧ Below w.heap.size w w' := by
  by_cases h0 : 1048576 < len0
  · exact walk_long0 a0 len0 cap0 a1 a2 a3 a4 len4 cap4 w h0 hm0
  by_cases h4 : 1048576 < len4
  · exact walk_long4 a0 len0 cap0 a1 a2 a3 a4 len4 cap4 w (by omega) h4 hm4
  by_cases hs : 1048576 < len0 + len4
  · exact walk_sum a0 len0 cap0 a1 a2 a3 a4 len4 cap4 w (by omega) (by omega) hs
  by_cases ht : a2 % 7 < 5
  · by_cases h7 : a3 % 8 = 7
    · exact walk_num_end a0 len0 cap0 p a1 a2 a3 a4 len4 cap4 r w Hp Hr Hps Hrs (by omega) h11 h12 h21 h22 h31 h32 ht h7
    · exact walk_num_more a0 len0 cap0 p a1 a2 a3 a4 len4 cap4 r w Hp Hr Hps Hrs (by omega) h11 h12 h21 h22 h31 h32 ht h7
  · by_cases h7 : a3 % 8 = 7
    · exact walk_lit_end a0 len0 cap0 p a1 a2 a3 a4 len4 cap4 r w Hp Hr Hps Hrs (by omega) h11 h12 h21 h22 h31 h32 (by omega) h7
    · exact walk_lit_more a0 len0 cap0 p a1 a2 a3 a4 len4 cap4 r w Hp Hr Hps Hrs (by omega) h11 h12 h21 h22 h31 h32 (by omega) h7

end Go.Proofs.Qxb6606310aMods.LawB
