import Derived.Test.Qxb6606310aModsStack
import Derived.Deep.DeepCutAuto
namespace Go.Proofs.Qxb6606310aMods.Onto
open Go.RowKit Plain
set_option linter.unusedVariables false

/-- What the builder hands back. -/
def Built (H : Nat) (w w' : World) (v : Value) (L : Nat) : Prop :=
  ∃ body : List Int, Owns H w' v body ∧ Below H w w' ∧ H ≤ w'.heap.size ∧ body.length ≤ 65 * (L + 1) ∧ (∃ c o', body = c :: o' ∧ (c = 123 ∨ c = 91)) ∧ Plain.Ends body

theorem built_of {H : Nat} {w wr : World} {vo vs ve : Value} {o s : List Int} {e : List Bool} {N L : Nat} {D : Int} (h : St H w wr vo vs ve o s e N D) (hD : D = 0) (hN : N ≤ 65 * (L + 1)) : Built H w wr vo L := by
  refine ⟨o, h.out, h.below, h.size, by have := h.short; omega, h.head, ?_⟩
  rcases h.inv with ⟨h1, _⟩ | ⟨_, h1⟩
  · omega
  · exact h1

/-- The three rows, just made. -/
structure St0 (H : Nat) (w wr : World) (vo vs ve : Value) : Prop where
  out : Owns H wr vo []
  stk : Owns H wr vs []
  emp : OwnsB H wr ve []
  os : Apart vo vs
  oe : Apart vo ve
  se : Apart vs ve
  below : Below H w wr
  size : H ≤ wr.heap.size

theorem st0_of {w w1 w2 w3 : World} (h1 : w1.ownsRow w.heap.size 5 1 (.slice (some ⟨w.heap.size, 0, none⟩) 0 64) 0 []) (g1 : w.grownBy w1 none)
    (h2 : w2.ownsRow w.heap.size 5 1 (.slice (some ⟨w1.heap.size, 0, none⟩) 0 16) 0 []) (g2 : w1.grownBy w2 none)
    (h3 : w3.ownsRow w.heap.size 4 1 (.slice (some ⟨w2.heap.size, 0, none⟩) 0 16) 0 []) (g3 : w2.grownBy w3 none) :
    St0 w.heap.size w w3 (.slice (some ⟨w.heap.size, 0, none⟩) 0 64) (.slice (some ⟨w1.heap.size, 0, none⟩) 0 16) (.slice (some ⟨w2.heap.size, 0, none⟩) 0 16) := by
  have l1 := (h1.lt _ rfl).2
  have l2 := (h2.lt _ rfl).2
  have s1 := g1.size
  have s2 := g2.size
  have s3 := g3.size
  have a1 : Apart (.slice (some ⟨w.heap.size, 0, none⟩) 0 64) (.slice (some ⟨w1.heap.size, 0, none⟩) 0 16) := by
    intro g e1 e2
    simp [Value.ownBlock] at e1 e2
    simp at l1
    omega
  have a2 : Apart (.slice (some ⟨w.heap.size, 0, none⟩) 0 64) (.slice (some ⟨w2.heap.size, 0, none⟩) 0 16) := by
    intro g e1 e2
    simp [Value.ownBlock] at e1 e2
    simp at l1
    omega
  have a3 : Apart (.slice (some ⟨w1.heap.size, 0, none⟩) 0 16) (.slice (some ⟨w2.heap.size, 0, none⟩) 0 16) := by
    intro g e1 e2
    simp [Value.ownBlock] at e1 e2
    simp at l2
    omega
  exact ⟨(h1.kept g2 (.inr (by simp [Value.ownBlock]))).kept g3 (.inr (by simp [Value.ownBlock])), h2.kept g3 (.inr (by simp [Value.ownBlock])), h3, a1, a2, a3,
    (((Below.refl _ _).grown g1 (Nat.le_refl _) (by simp)).grown g2 s1 (by simp)).grown g3 (by omega) (by simp), by omega⟩

theorem St0.out_open {H : Nat} {w wr w' : World} {vo vs ve vo' : Value} {c : Int} (h : St0 H w wr vo vs ve) (hg : Grew H wr vo w' vo' ([] ++ [c])) (hc : c = 123 ∨ c = 91) : St H w w' vo' vs ve [c] [] [] 1 1 :=
  ⟨hg.owns, kept_apart h.stk hg.moved h.os.symm, kept_apart h.emp hg.moved h.oe.symm, (apart_moved h.stk hg.moved h.os.symm).symm, (apart_moved h.emp hg.moved h.oe.symm).symm, h.se,
    h.below.trans (hg.below h.out h.size), Nat.le_trans h.size hg.by_.size, by simp, .inl ⟨by omega, adv_open hc⟩, c, [], rfl, hc⟩

theorem Owns.cell_at {base : Nat} {w : World} {g n cap : Nat} {bs : List Int} (h : Owns base w (.slice (some ⟨g, 0, none⟩) n cap) bs) (hn : bs.length = n) (j : Nat) (hj : j < n) : w.cell? ⟨g, j, none⟩ = some (.int .u8 (bs.getD j 0)) := by
  subst hn
  rw [World.ownsRow.cellAt h j (by omega)]
  simp [cellsOf, hj]
theorem owns_cap {w : World} {base : Nat} {t : TypeId} {g n cap : Nat} {xs : List Value} (h : w.ownsRow base t 1 (.slice (some ⟨g, 0, none⟩) n cap) n xs) : n ≤ cap := by
  obtain ⟨_, ⟨h1, _⟩ | ⟨g', cap', cur, h1, _, _, h2, _⟩⟩ := h
  · cases h1
  · cases h1; exact h2
theorem adv_ws (D : Int) : Adv [32, 10, 9, 13] D D :=
  adv_app (a := [32]) (adv_byte (by decide) (by decide) (by decide) (by decide) (by decide)) (adv_app (a := [10]) (adv_byte (by decide) (by decide) (by decide) (by decide) (by decide))
    (adv_app (a := [9]) (adv_byte (by decide) (by decide) (by decide) (by decide) (by decide)) (adv_byte (by decide) (by decide) (by decide) (by decide) (by decide))))
theorem form_of' {base : Nat} {w : World} {v : Value} {bs : List Int} {n : Nat} (h : Owns base w v bs) (hn : bs.length = n) : ∃ a cap, v = .slice a n cap := by
  subst hn; exact h.form
theorem open_of' {base : Nat} {w : World} {v : Value} {bs : List Int} {n : Nat} (h : Owns base w v bs) (hn : bs.length = n) (h0 : 0 < n) :
    ∃ g cap, v = .slice (some ⟨g, 0, none⟩) n cap ∧ n ≤ cap ∧ ∀ j, j < n → w.cell? ⟨g, j, none⟩ = some (.int .u8 (bs.getD j 0)) := by
  subst hn
  obtain ⟨g, cap, e, hc⟩ := h.open (fun e => by simp [e] at h0)
  subst e
  exact ⟨g, cap, rfl, owns_cap h, fun j hj => by have := hc j hj; rwa [Nat.zero_add] at this⟩
theorem OwnsB.frozen {base : Nat} {w : World} {e : List Bool} {g n cap : Nat} (h : OwnsB base w (.slice (some ⟨g, 0, none⟩) n cap) e) (hn : e.length = n) (j : Nat) : w.frozen? ⟨g, j, none⟩ = false := by
  subst hn
  exact World.ownsRow.frozenAt h j
theorem St.more {H : Nat} {w wr : World} {vo vs ve : Value} {o s : List Int} {e : List Bool} {N N' : Nat} {D D' : Int} (h : St H w wr vo vs ve o s e N D) (hN : N ≤ N') (hD : D = D') : St H w wr vo vs ve o s e N' D' := by
  subst hD
  exact ⟨h.out, h.stk, h.emp, h.os, h.oe, h.se, h.below, h.size, Nat.le_trans h.short hN, h.inv, h.head⟩

theorem round_end {H : Nat} {w w9 : World} {v9 vs ve : Value} {o9 s : List Int} {e2 : List Bool} {N9 d k : Nat} (HS : Hid (s.length = d + 1)) (HE2 : Hid (e2.length = d + 1)) (h : St H w w9 v9 vs ve o9 s e2 N9 ((d + 1 : Nat) : Int)) (hN : N9 ≤ 64 * (k + 1)) (hk : d + 1 ≤ k + 1) :
    s.length ≤ k + 1 ∧ Hid (e2.length = s.length) ∧ St H w w9 v9 vs ve o9 s e2 (64 * (k + 1)) s.length :=
  ⟨by rw [HS.out]; exact hk, (by show _ = _; rw [HS.out, HE2.out]), h.more hN (by rw [HS.out])⟩
theorem byte_at {ops : List Int} {L k : Nat} (Hl : Hid (ops.length = L)) (Hw : Hid (∀ c ∈ ops, 0 ≤ c ∧ c ≤ 255)) (hk : k < L) : 0 ≤ ops.getD k 0 ∧ ops.getD k 0 ≤ 255 := by
  have hl : k < ops.length := by rw [Hl.out]; exact hk
  have : ops.getD k 0 = ops[k] := by simp [List.getD, hl]
  rw [this]
  exact Hw.out _ (List.getElem_mem hl)

set_option maxRecDepth 100000 in
set_option maxHeartbeats 16000000 in
theorem build_any (a : Option Addr) (L cap : Nat) (ops : List Int) (w : World) (Hl : Hid (ops.length = L)) (hL : L ≤ 32768) (Hw : Hid (∀ c ∈ ops, 0 ≤ c ∧ c ≤ 255))
    (Hc : Hid (0 < L → ∃ b off, a = some ⟨b, off, none⟩ ∧ ∀ w', Below w.heap.size w w' → ∀ j, j < L → w'.cell? ⟨b, off + j, none⟩ = some (.int .u8 (ops.getD j 0)))) :
    Calls Trym.prog 10 #[.slice a L cap] w fun e w' => ∃ v, e = .returned v ∧ Built w.heap.size w w' v L := by
  obtain ⟨i5, hi5, hz50, hz51, hz52⟩ := info_parts info5
  obtain ⟨i4, hi4, hz40, hz41, hz42⟩ := info_parts info4
  go_enter Trym.func10, Trym.ntmps10
  go_upto_region 5 with (first
    | (at_make; refine wpList_make_own _ rfl _ (.const (.int .i64 64)) 22 rfl w.heap.size 5 i5 (.int .u8 0) 1 Trym.underlying22 hi5 hz50 hz51 _ _ _ 64 rfl rfl rfl (by rw [hz52]; omega) (by unfold maxLen; omega) (Nat.le_refl _) ?_; intro w1 ho1 hg1)
    | (at_make; refine wpList_make_own _ rfl _ (.const (.int .i64 16)) 22 rfl w.heap.size 5 i5 (.int .u8 0) 1 Trym.underlying22 hi5 hz50 hz51 _ _ _ 16 rfl rfl rfl (by rw [hz52]; omega) (by unfold maxLen; omega) hg1.size ?_; intro w2 ho2 hg2)
    | (at_make; refine wpList_make_own _ rfl _ (.const (.int .i64 16)) 33 rfl w.heap.size 4 i4 (.bool false) 1 Trym.underlying33 hi4 hz40 hz41 _ _ _ 16 rfl rfl rfl (by rw [hz42]; omega) (by unfold maxLen; omega) (Nat.le_trans hg1.size hg2.size) ?_; intro w3 ho3 hg3; have hs0 := st0_of ho1 hg1 ho2 hg2 ho3 hg3; clear ho1 ho2 ho3 hg1 hg2 hg3))
  go_cut [24] (fun t wx => (∃ q : Bool, t = .bool q) ∧ wx = w3)
  case first =>
    by_cases h0 : 0 < L
    · obtain ⟨b, off, rfl, hcl⟩ := Hc.out h0
      have h00 := hcl w3 hs0.below 0 h0
      rw [Nat.add_zero] at h00
      have hb0 := byte_at Hl Hw h0
      generalize ops.getD 0 0 = b0 at h00 hb0
      obtain ⟨hb01, hb02⟩ := hb0
      clear hcl
      go_wp2
      all_goals (go_meet; case rel => exact ⟨⟨_, rfl⟩, rfl⟩)
    · have h0' : L = 0 := by omega
      subst h0'
      go_wp2
      all_goals (go_meet; case rel => exact ⟨⟨_, rfl⟩, rfl⟩)
  case rest =>
    obtain ⟨⟨q, rfl⟩, rfl⟩ := hcut
    go_upto_if 24 with fail
    go_cut [6] (fun t wx => (∃ c : Int, t = .int .u8 c ∧ (c = 123 ∨ c = 91)) ∧ wx = wc)
    case first =>
      cases q
      all_goals (go_wp2; go_meet; case rel => exact ⟨⟨_, rfl, by omega⟩, rfl⟩)
    case rest =>
      obtain ⟨⟨c0, rfl, hc0⟩, rfl⟩ := hcut
      have Hc0 : Hid (c0 = 123 ∨ c0 = 91) := hc0
      clear hc0
      go_wp2_with (first
        | (at_builtin; refine app_lit _ rfl (.tmp 25) (.tmp 27) rfl w.heap.size _ [] (by rfl) hs0.out 1 [c0] (by rfl) rfl (by simp) hs0.size ?_; intro v4 w4 hg4; have hst := hs0.out_open hg4 Hc0.out; clear hg4 hs0)
        | (at_builtin; refine app_lit _ rfl (.tmp 29) (.tmp 31) rfl w.heap.size _ [] (by rfl) hst.stk 1 [c0] (by rfl) rfl (by simp) hst.size ?_; intro v5 w5 hg5; replace hst := hst.stk_step hg5; clear hg5)
        | (at_builtin; refine app_true _ rfl (.tmp 33) (.tmp 34) rfl w.heap.size _ [] (by rfl) hst.emp (by rfl) (by simp) hst.size ?_; intro v6 w6 ho6 hm6; replace hst := hst.emp_step ho6 hm6; clear ho6 hm6))
      go_loopw [3, 4, 5, 7] (fun vo vs ve nv wr => ∃ (k : Nat) (o s : List Int) (e : List Bool), nv = .int .i64 k ∧ 1 ≤ k ∧ k ≤ L + 1 ∧ s.length ≤ k ∧ Hid (e.length = s.length) ∧ St w.heap.size w wr vo vs ve o s e (64 * k) s.length) (fun _ _ _ nv _ => L + 1 - (intOf nv).toNat)
      case atStart => exact ⟨1, [c0], [] ++ [c0], [] ++ [true], rfl, by omega, by omega, by simp, (by show _ = _; rfl), hst.more (by omega) (by simp)⟩
      case round =>
        obtain ⟨k, o, s, e, rfl, hk1, hkL, hsk, hes, hst⟩ := hrel
        obtain ⟨S, hS⟩ : ∃ S, S = s.length := ⟨_, rfl⟩
        have HS : Hid (s.length = S) := hS.symm
        have HE : Hid (e.length = S) := by show _ = _; rw [hes.out, hS]
        rw [← hS] at hsk hst
        clear hS hes
        by_cases hgo : k < L ∧ 0 < S
        · obtain ⟨hlt, hS0⟩ := hgo
          obtain ⟨b, off, rfl, hcl⟩ := Hc.out (by omega)
          have hcb := hcl wr hst.below k hlt
          obtain ⟨hb1, hb2⟩ := byte_at Hl Hw hlt
          generalize ops.getD k 0 = x at hcb hb1 hb2
          clear hcl
          obtain ⟨d, rfl⟩ : ∃ d, S = d + 1 := ⟨S - 1, by omega⟩
          obtain ⟨gs, caps, rfl, hcaps, hcs⟩ := open_of' hst.stk HS.out hS0
          obtain ⟨ge, cape, rfl⟩ := hst.emp.open HE.out hS0
          have hcape : d + 1 ≤ cape := owns_cap (n := d + 1) (by have := hst.emp; unfold OwnsB at this; rw [HE.out] at this; exact this)
          have hce := hst.emp.cell HE.out d (by omega)
          have hfe : wr.frozen? ⟨ge, d, none⟩ = false := hst.emp.frozen HE.out d
          have hcsd := hcs d (by omega)
          clear hcs
          obtain ⟨c, hcc⟩ : ∃ c, s.getD d 0 = c := ⟨_, rfl⟩
          rw [hcc] at hcsd
          have HC : Hid (s.getD d 0 = c) := hcc
          clear hcc
          generalize e.getD d false = q1 at hce
          have hDD : (1 : Int) ≤ ((d + 1 : Nat) : Int) := by omega
          have hNN := hst.short
          by_cases h0 : x % 8 = 0
          · go_wp2_with (go_at_call 19; refine (closer w.heap.size _ o c _ hst.out hst.size (by omega)).mono ?_; rintro e9 w9 ⟨v9, rfl, hg9⟩; replace hst := hst.out_step hg9 (m := 1) (by simp) (inv_close c hst.inv hDD); clear hg9)
            have hl1 : (s.take d).length = d := by rw [List.length_take, HS.out]; omega
            have hl2 : (e.take d).length = d := by rw [List.length_take, HE.out]; omega
            go_roundw
            case rel => exact ⟨k + 1, _, _, _, by go_num, by omega, by omega, by rw [hl1]; omega, (by show _ = _; rw [hl1, hl2]), (hst.pop HS.out HE.out).more (by omega) (by rw [hl1]; omega)⟩
            case measure => simp [intOf]; omega
          by_cases h7 : x % 8 = 7
          · go_wp2_with (at_builtin; refine app_lit _ rfl (.tmp 72) (.tmp 73) rfl w.heap.size _ o (by rfl) hst.out 4 [32, 10, 9, 13] (by rfl) rfl (by omega) hst.size ?_; intro v9 w9 hg9; replace hst := hst.out_step hg9 (m := 4) (by simp) (inv_adv hst.inv hDD (adv_ws _) hDD); clear hg9)
            go_roundw
            case rel => exact ⟨k + 1, _, s, e, by go_num, by omega, by omega, by rw [HS.out]; omega, (by show _ = _; rw [HS.out, HE.out]), hst.more (by omega) (by rw [HS.out])⟩
            case measure => simp [intOf]; omega
          have f0 : (x % 8 == 0) = false := by simp [h0]
          have f7 : (x % 8 == 7) = false := by simp [h7]
          clear h0 h7
          go_upto_if 79 with fail
          have hne : ge ≠ gs := fun e => hst.se gs rfl (by rw [e]; rfl)
          have hne' : gs ≠ ge := fun e => hne e.symm
          have Hraw : Hid (∀ y ∈ [107, x], 0 ≤ y ∧ y ≤ 255) := by intro y hy; simp at hy; omega
          have Hraw7 : Hid (∀ y ∈ [91, x, 34, 92, 125, 93, 123], 0 ≤ y ∧ y ≤ 255) := by intro y hy; simp at hy; omega
          go_cut [3] (fun vo wx => ∃ o', St w.heap.size w wx vo (.slice (some ⟨gs, 0, none⟩) (d + 1) caps) (.slice (some ⟨ge, 0, none⟩) (d + 1) cape) o' s e (64 * k + 1) ((d + 1 : Nat) : Int))
          case first =>
            cases q1 with
            | true =>
              go_wp2
              go_meet
              case rel => exact ⟨o, hst.more (by omega) rfl⟩
            | false =>
              go_wp2_with (at_builtin; refine app_lit _ rfl (.tmp 80) (.tmp 81) rfl w.heap.size _ o (by rfl) hst.out 1 [44] (by rfl) rfl (by omega) hst.size ?_; intro v9 w9 hg9; replace hst := hst.out_step hg9 (m := 1) (by simp) (inv_adv hst.inv hDD (adv_byte (by decide) (by decide) (by decide) (by decide) (by decide)) hDD); clear hg9)
              go_meet
              case rel => exact ⟨_, hst⟩
          case rest =>
            clear hst hcsd hce hfe hNN
            obtain ⟨o1, hst⟩ := hcut
            obtain ⟨q2, hce⟩ : ∃ q2, wc.cell? ⟨ge, d, none⟩ = some (.bool q2) := ⟨_, hst.emp.cell HE.out d (by omega)⟩
            have hfe : wc.frozen? ⟨ge, d, none⟩ = false := hst.emp.frozen HE.out d
            have hcsd : wc.cell? ⟨gs, d, none⟩ = some (.int .u8 c) := by rw [← HC.out]; exact hst.stk.cell_at HS.out d (by omega)
            obtain ⟨ho1, hm1⟩ := hst.emp.store HE.out d
            replace hst := hst.emp_step ho1 hm1
            have HE2 : Hid ((e.set d false).length = d + 1) := by show _ = _; rw [List.length_set]; exact HE.out
            clear ho1 hm1
            generalize e.set d false = e2 at hst HE2
            have hNN := hst.short
            go_upto_if 90 with fail
            go_cut [3] (fun vo wx => ∃ o', St w.heap.size w wx vo (.slice (some ⟨gs, 0, none⟩) (d + 1) caps) (.slice (some ⟨ge, 0, none⟩) (d + 1) cape) o' s e2 (64 * k + 16) ((d + 1 : Nat) : Int))
            case first =>
              by_cases h123 : c = 123
              · subst h123
                go_wp2_with (first
                  | (go_at_call 20; refine (str_lit w.heap.size _ o1 2 [107, x] _ hst.out hst.size (by omega) rfl (by omega) Hraw.out _ (by first | rfl | simp)).mono ?_; rintro e9 w9 ⟨v9, ds, rfl, hg9, hl9, hq9⟩; replace hst := hst.out_step hg9 (m := 14) (by omega) (inv_adv hst.inv hDD (hq9.out _) hDD); clear hg9; replace hNN := hst.short)
                  | (at_builtin; refine app_lit _ rfl (.tmp 95) (.tmp 96) rfl w.heap.size _ (o1 ++ ds) (by rfl) hst.out 1 [58] (by rfl) rfl (by omega) hst.size ?_; intro v8 w8 hg8; replace hst := hst.out_step hg8 (m := 1) (by simp) (inv_adv hst.inv hDD (adv_byte (by decide) (by decide) (by decide) (by decide) (by decide)) hDD); clear hg8))
                go_meet
                case rel => exact ⟨_, hst.more (by omega) rfl⟩
              · have f123 : (c == 123) = false := by simp [h123]
                clear h123
                go_wp2
                go_meet
                case rel => exact ⟨_, hst.more (by omega) rfl⟩
            case rest =>
              clear hst hcsd hce hfe hNN
              obtain ⟨o2, hst⟩ := hcut
              have hNN := hst.short
              by_cases h1 : x % 8 = 1
              · have Hop : Hid ((91 : Int) = 123 ∨ (91 : Int) = 91) := by show _ ∨ _; decide
                go_wp2_with (first
                  | (at_builtin; refine app_lit _ rfl (.tmp 103) (.tmp 104) rfl w.heap.size _ o2 (by rfl) hst.out 1 [91] (by rfl) rfl (by omega) hst.size ?_; intro v7 w7 hg7; replace hst := hst.out_step hg7 (m := 1) (by simp) (inv_adv hst.inv hDD (adv_open Hop.out) (by omega)); clear hg7)
                  | (at_builtin; refine app_lit _ rfl (.tmp 106) (.tmp 107) rfl w.heap.size _ s (by rfl) hst.stk 1 [91] (by rfl) rfl (by rw [HS.out]; omega) hst.size ?_; intro v8 w8 hg8; replace hst := hst.stk_step hg8; clear hg8)
                  | (at_builtin; refine app_true _ rfl (.tmp 109) (.tmp 110) rfl w.heap.size _ e2 (by rfl) hst.emp (by rfl) (by rw [HE2.out]; omega) hst.size ?_; intro v9 w9 ho9 hm9; replace hst := hst.emp_step ho9 hm9; clear ho9 hm9))
                go_roundw
                case rel => exact ⟨k + 1, _, s ++ [91], e2 ++ [true], by go_num, by omega, by omega, by rw [List.length_append, HS.out]; simp; omega, (by show _ = _; rw [List.length_append, List.length_append, HS.out, HE2.out]; rfl), hst.more (by omega) (by rw [List.length_append, HS.out]; simp)⟩
                case measure => simp [intOf]; omega
              have f1 : (x % 8 == 1) = false := by simp [h1]
              by_cases h2 : x % 8 = 2
              · have Hop : Hid ((123 : Int) = 123 ∨ (123 : Int) = 91) := by show _ ∨ _; decide
                go_wp2_with (first
                  | (at_builtin; refine app_lit _ rfl (.tmp 114) (.tmp 115) rfl w.heap.size _ o2 (by rfl) hst.out 1 [123] (by rfl) rfl (by omega) hst.size ?_; intro v7 w7 hg7; replace hst := hst.out_step hg7 (m := 1) (by simp) (inv_adv hst.inv hDD (adv_open Hop.out) (by omega)); clear hg7)
                  | (at_builtin; refine app_lit _ rfl (.tmp 117) (.tmp 118) rfl w.heap.size _ s (by rfl) hst.stk 1 [123] (by rfl) rfl (by rw [HS.out]; omega) hst.size ?_; intro v8 w8 hg8; replace hst := hst.stk_step hg8; clear hg8)
                  | (at_builtin; refine app_true _ rfl (.tmp 120) (.tmp 121) rfl w.heap.size _ e2 (by rfl) hst.emp (by rfl) (by rw [HE2.out]; omega) hst.size ?_; intro v9 w9 ho9 hm9; replace hst := hst.emp_step ho9 hm9; clear ho9 hm9))
                go_roundw
                case rel => exact ⟨k + 1, _, s ++ [123], e2 ++ [true], by go_num, by omega, by omega, by rw [List.length_append, HS.out]; simp; omega, (by show _ = _; rw [List.length_append, List.length_append, HS.out, HE2.out]; rfl), hst.more (by omega) (by rw [List.length_append, HS.out]; simp)⟩
                case measure => simp [intOf]; omega
              have f2 : (x % 8 == 2) = false := by simp [h2]
              by_cases h3 : x % 8 = 3
              · go_wp2_with (go_at_call 20; refine (str_lit w.heap.size _ o2 7 [91, x, 34, 92, 125, 93, 123] _ hst.out hst.size (by omega) rfl (by omega) Hraw7.out _ (by first | rfl | simp)).mono ?_; rintro e9 w9 ⟨v9, ds, rfl, hg9, hl9, hq9⟩; replace hst := hst.out_step hg9 (m := 44) (by omega) (inv_adv hst.inv hDD (hq9.out _) hDD); clear hg9)
                go_roundw
                case rel => exact ⟨k + 1, _, s, e2, by go_num, by omega, by omega, round_end HS HE2 hst (by omega) (by omega)⟩
                case measure => simp [intOf]; omega
              have f3 : (x % 8 == 3) = false := by simp [h3]
              by_cases h4 : x % 8 = 4
              · by_cases h16 : (bits .and .u8 x 16 != 0) = true
                · go_wp2_with (first
                    | (go_at_call 12; refine (int_any w.heap.size _ o2 _ _ hst.out hst.size (by omega) (by omega) (by omega)).mono ?_; rintro e9 w9 ⟨v9, ds, rfl, hg9, hn9, hq9⟩; replace hst := hst.out_step hg9 (m := 21) hq9.out.1 (inv_adv hst.inv hDD (adv_calm _ _ hq9.out.2) hDD); clear hg9; replace hNN := hst.short)
                    | (at_builtin; refine app_lit _ rfl (.tmp 139) (.tmp 140) rfl w.heap.size _ (o2 ++ ds) (by rfl) hst.out 6 [46, 50, 53, 101, 43, 55] (by rfl) rfl (by omega) hst.size ?_; intro v8 w8 hg8; replace hst := hst.out_step hg8 (m := 6) (by simp) (inv_adv hst.inv hDD (adv_calm _ _ (by decide)) hDD); clear hg8))
                  go_roundw
                  case rel => exact ⟨k + 1, _, s, e2, by go_num, by omega, by omega, round_end HS HE2 hst (by omega) (by omega)⟩
                  case measure => simp [intOf]; omega
                · have h16' : (bits .and .u8 x 16 != 0) = false := by simpa using h16
                  clear h16
                  go_wp2_with (go_at_call 12; refine (int_any w.heap.size _ o2 _ _ hst.out hst.size (by omega) (by omega) (by omega)).mono ?_; rintro e9 w9 ⟨v9, ds, rfl, hg9, hn9, hq9⟩; replace hst := hst.out_step hg9 (m := 21) hq9.out.1 (inv_adv hst.inv hDD (adv_calm _ _ hq9.out.2) hDD); clear hg9)
                  go_roundw
                  case rel => exact ⟨k + 1, _, s, e2, by go_num, by omega, by omega, round_end HS HE2 hst (by omega) (by omega)⟩
                  case measure => simp [intOf]; omega
              have f4 : (x % 8 == 4) = false := by simp [h4]
              by_cases h5 : x % 8 = 5
              · go_wp2_with (go_at_call 14; refine (lit_any w.heap.size _ o2 _ _ hst.out hst.size (by omega)).mono ?_; rintro e9 w9 ⟨v9, ds, rfl, hg9, hn9, hq9⟩; replace hst := hst.out_step hg9 (m := 21) hq9.out.1 (inv_adv hst.inv hDD (adv_calm _ _ hq9.out.2) hDD); clear hg9)
                go_roundw
                case rel => exact ⟨k + 1, _, s, e2, by go_num, by omega, by omega, round_end HS HE2 hst (by omega) (by omega)⟩
                case measure => simp [intOf]; omega
              have f5 : (x % 8 == 5) = false := by simp [h5]
              · clear h1 h2 h3 h4 h5
                go_wp2_with (go_at_call 20; refine (str_nil w.heap.size _ o2 _ hst.out hst.size (by omega)).mono ?_; rintro e9 w9 ⟨v9, ds, rfl, hg9, hl9, hq9⟩; replace hst := hst.out_step hg9 (m := 2) hl9 (inv_adv hst.inv hDD (hq9.out _) hDD); clear hg9)
                go_roundw
                case rel => exact ⟨k + 1, _, s, e2, by go_num, by omega, by omega, round_end HS HE2 hst (by omega) (by omega)⟩
                case measure => simp [intOf]; omega
        · obtain ⟨ax, caps, rfl⟩ := form_of' hst.stk HS.out
          have hgd : (k < L ∧ S = 0) ∨ L ≤ k := by omega
          clear hgo
          rcases hgd with ⟨hg1, rfl⟩ | hg1
          · go_wp2_with fail
            go_loopw [3, 11] (fun vo dv w2 => ∃ (m : Nat) (t : Int) (o9 : List Int), dv = .int .i64 t ∧ Hid (t + 1 = m) ∧ m ≤ 0 ∧ St w.heap.size w w2 vo (.slice ax 0 caps) u5 o9 s e (64 * k + (0 - m)) (m : Int)) (fun _ dv _ => (intOf dv + 1).toNat)
            case atStart => exact ⟨0, _, o, rfl, (by show _ = _; omega), Nat.le_refl _, hst.more (by omega) rfl⟩
            case round =>
              obtain ⟨m, t, o9, rfl, hmt, hmS, hst9⟩ := hrel
              rcases m with _ | j
              · obtain rfl : t = -1 := by have := hmt.out; omega
                go_wp2_with fail
                go_ret
                exact ⟨_, rfl, built_of hst9 (by simp) (by omega)⟩
              · obtain rfl : t = (j : Int) := by have := hmt.out; omega
                obtain ⟨gs, caps', hv9, _, hcs⟩ := open_of' hst9.stk HS.out (by omega)
                simp only [Value.slice.injEq] at hv9
                obtain ⟨rfl, -, rfl⟩ := hv9
                have hcj := hcs j (by omega)
                clear hcs
                generalize s.getD j 0 = c at hcj
                have hN9 := hst9.short
                have hD9 : (1 : Int) ≤ ((j + 1 : Nat) : Int) := by omega
                go_wp2_with (go_at_call 19; refine (closer w.heap.size _ o9 c _ hst9.out hst9.size (by omega)).mono ?_; rintro e9 w9 ⟨v9, rfl, hg9⟩; replace hst9 := hst9.out_step hg9 (m := 1) (by simp) (inv_close c hst9.inv hD9); clear hg9)
                go_roundw
                case rel => exact ⟨j, (j : Int) - 1, _, by go_num, (by show _ = _; omega), by omega, hst9.more (by omega) (by omega)⟩
                case measure => simp [intOf]
          · go_wp2_with fail
            go_loopw [3, 11] (fun vo dv w2 => ∃ (m : Nat) (t : Int) (o9 : List Int), dv = .int .i64 t ∧ Hid (t + 1 = m) ∧ m ≤ S ∧ St w.heap.size w w2 vo (.slice ax S caps) u5 o9 s e (64 * k + (S - m)) (m : Int)) (fun _ dv _ => (intOf dv + 1).toNat)
            case atStart => exact ⟨S, _, o, rfl, (by show _ = _; omega), Nat.le_refl _, hst.more (by omega) rfl⟩
            case round =>
              obtain ⟨m, t, o9, rfl, hmt, hmS, hst9⟩ := hrel
              rcases m with _ | j
              · obtain rfl : t = -1 := by have := hmt.out; omega
                go_wp2_with fail
                go_ret
                exact ⟨_, rfl, built_of hst9 (by simp) (by omega)⟩
              · obtain rfl : t = (j : Int) := by have := hmt.out; omega
                obtain ⟨gs, caps', hv9, _, hcs⟩ := open_of' hst9.stk HS.out (by omega)
                simp only [Value.slice.injEq] at hv9
                obtain ⟨rfl, -, rfl⟩ := hv9
                have hcj := hcs j (by omega)
                clear hcs
                generalize s.getD j 0 = c at hcj
                have hN9 := hst9.short
                have hD9 : (1 : Int) ≤ ((j + 1 : Nat) : Int) := by omega
                go_wp2_with (go_at_call 19; refine (closer w.heap.size _ o9 c _ hst9.out hst9.size (by omega)).mono ?_; rintro e9 w9 ⟨v9, rfl, hg9⟩; replace hst9 := hst9.out_step hg9 (m := 1) (by simp) (inv_close c hst9.inv hD9); clear hg9)
                go_roundw
                case rel => exact ⟨j, (j : Int) - 1, _, by go_num, (by show _ = _; omega), by omega, hst9.more (by omega) (by omega)⟩
                case measure => simp [intOf]

end Go.Proofs.Qxb6606310aMods.Onto
