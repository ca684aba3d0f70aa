import Derived.Test.Qxb6000402aModsLawF
namespace Go.Proofs.Qxb6000402aMods
open Go.RowKit Mem Deal
set_option linter.unusedVariables false

/-- The run [a, b) of the row f. -/
structure Run (f : Nat → Int) (n a b : Nat) : Prop where
  lo : ∀ t, t < a → f t < f a
  eq : ∀ t, a ≤ t → t < b → f t = f a
  ne : b < n → f b ≠ f a
theorem run_here {f : Nat → Int} {n a b : Nat} (h : Run f n a b) (hu : Up f n) (hab : a < b) (hb : b ≤ n) : At f n (f a) a := ⟨by omega, h.lo, fun i h1 h2 => hu a i h1 h2⟩
theorem run_past {f : Nat → Int} {n a b : Nat} (h : Run f n a b) (hu : Up f n) (hab : a < b) (hb : b ≤ n) : At f n (f a + 1) b := by
  refine ⟨hb, fun i hi => ?_, fun i h1 h2 => ?_⟩
  · by_cases e : i < a
    · have := h.lo i e; omega
    · have := h.eq i (by omega) hi; omega
  · have h3 := h.ne (by omega)
    have h4 := hu a b (by omega) (by omega)
    have h5 := hu b i h1 h2
    omega
theorem run_then {f : Nat → Int} {n a b : Nat} (h : Run f n a b) (hu : Up f n) (hab : a < b) : ∀ t, t < b → b < n → f t < f b := by
  intro t ht hbn
  have h3 := h.ne hbn
  have h4 := hu a b (by omega) hbn
  by_cases e : t < a
  · have := h.lo t e; omega
  · have := h.eq t (by omega) ht; omega

set_option maxRecDepth 100000 in
set_option maxHeartbeats 4000000 in
theorem past_walk (na pa : Option Addr) (m mc n nc : Nat) (f : Nat → ByteArray) (pts : List Int) (w : World) (hm : m ≤ 9223372036854775807) (hn : n ≤ 9223372036854775807) (Hn : Hid (NmsIn w na m f)) (Hp : Hid (PtsIn w pa n pts))
    (Hn0 : Hid (na = none → m = 0 ∧ mc = 0)) (Hp0 : Hid (pa = none → n = 0 ∧ nc = 0)) (Hs : Hid (∀ j, j < m → (f j).size ≤ 9223372036854775807)) (Hl : Hid (pts.length = n)) (Hw : Hid (∀ p ∈ pts, 0 ≤ p ∧ p < 18446744073709551616)) :
    Calls Trym.prog 7 #[.slice na m mc, .slice pa n nc] w fun e w' => e = .returned (.bool true) ∧ Below w.heap.size w w' := by
  go_enter Trym.func7, Trym.ntmps7
  go_wp2_with fail
  refine (bytes23 na pa m mc n nc f w hm hn Hn Hs).mono ?_
  rintro e w' (⟨rfl, rfl⟩ | ⟨rfl, rfl, hs⟩)
  · go_wp2_with fail
    go_ret
    exact ⟨rfl, Below.refl _ _⟩
  have Hs1 : Hid (∀ j, j < m → (f j).size ≤ 1048576) := hs
  clear hs Hs
  go_wp2_with fail
  refine (over_any na pa m mc n nc f _ hm hn Hn Hs1).mono ?_
  rintro e w' (⟨rfl, rfl⟩ | ⟨rfl, rfl, hm1, hn1⟩)
  · go_wp2_with fail
    go_ret
    exact ⟨rfl, Below.refl _ _⟩
  go_wp2_with fail
  refine (nodes_any na pa m mc n nc pts _ hm1 hn1 Hp Hl Hw).mono ?_
  rintro e w' (⟨rfl, rfl⟩ | ⟨rfl, rfl, ho⟩)
  · go_wp2_with fail
    go_ret
    exact ⟨rfl, Below.refl _ _⟩
  have Hg : Hid (∀ p ∈ pts, Deal.Good p) := fun p hp => ⟨(Hw.out p hp).1, (Hw.out p hp).2, by have := ho p hp; omega⟩
  have Hm : Hid (∀ p ∈ pts, own p < m) := fun p hp => by have := ho p hp; unfold own; omega
  clear ho
  by_cases hz : n = 0
  · go_wp2_with fail
    go_ret
    exact ⟨rfl, Below.refl _ _⟩
  have hz1 : ((n : Int) == 0) = false := by simp [hz]
  go_wp2_with fail
  refine (copyNms_any na m mc f _ hm1 Hn Hn0).mono ?_
  rintro e w1 ⟨na1, mc1, rfl, Hn1, Hn01, hk1⟩
  have hb1 := below_keeps (Below.refl _ _) hk1 (Nat.le_refl _) (by simp)
  have hs1 := hk1.size
  go_wp2_with fail
  refine (copyPts_any pa n nc pts _ hn1 (Hp.out.kept hk1) Hp0).mono ?_
  rintro e w2 ⟨pa1, rfl, Hp1, Hp01, hk2⟩
  have hb2 := below_keeps hb1 hk2 hs1 (by simp)
  go_wp2_with fail
  refine (circ w1.heap.size n m mc1 na1 pa1 pts w2 hn1 hm1 Hl Hg Hm Hp1).mono ?_
  rintro e w4 ⟨W, O, rfl, hL⟩
  generalize dis m (owners pts) = q
  unfold circleV
  have hR := rg_of (q := q) (nv := .slice na1 m mc1) hb2 hs1 hL
  clear hL Hp1 hk2 hk1 hb1 hb2 Hn1
  go_wp2_with fail
  generalize w4.alloc (.cells #[.slice (some ⟨W, 0, none⟩) n n, .slice none 0 0, .slice none 0 0, .slice (some ⟨O, 0, none⟩) n n, .slice na1 m mc1, .int .i64 q] 30) = w5 at hR ⊢
  generalize w4.heap.size = B at hR ⊢
  refine (wide_any _ _ _ _ _ _ _ _ hR.b).mono ?_
  rintro e wx ⟨rfl, hwx⟩
  subst hwx
  have Hf : Hid (∀ i, i < n → 0 ≤ pf pts i ∧ pf pts i < 4294967296) := pf_b Hg.out Hl.out
  have Hu : Hid (Up (pf pts) n) := pf_up Hg.out Hl.out
  go_wp2_with fail
  go_loopw [8] (fun av wr => ∃ a : Nat, av = .int .i64 a ∧ a ≤ n ∧ Hid (∀ t, t < a → a < n → pf pts t < pf pts a) ∧ Rg w' wr B W O n q (.slice na1 m mc1) pts) (fun av _ => n - (intOf av).toNat)
  case atStart => exact ⟨0, rfl, by omega, (fun t ht => by omega), hR⟩
  case round =>
    clear hR
    obtain ⟨a, rfl, ha, hlo, hR⟩ := hrel
    by_cases hlt : a < n
    · go_wp2_with fail
      go_loopw [9] (fun bv wr => ∃ b : Nat, bv = .int .i64 b ∧ a ≤ b ∧ b ≤ n ∧ Hid (∀ t, a ≤ t → t < b → pf pts t = pf pts a) ∧ Rg w' wr B W O n q (.slice na1 m mc1) pts) (fun bv _ => n - (intOf bv).toNat)
      case atStart => exact ⟨a, rfl, by omega, by omega, (fun t h1 h2 => by omega), hR⟩
      case round =>
        clear hR
        obtain ⟨b, rfl, hab, hbi, hrun, hR⟩ := hrel
        by_cases hb : b < n
        · have hca := hR.wd.cell hlt
          have hcb := hR.wd.cell hb
          have hli : (b : Int) < (n : Int) := by omega
          have hla : (a : Int) < (n : Int) := by omega
          by_cases heq : pf pts b = pf pts a
          · rw [heq] at hcb
            have hrun1 : Hid (∀ t, a ≤ t → t < b + 1 → pf pts t = pf pts a) := by
              intro t h1 h2
              by_cases e : t = b
              · rw [e]; exact heq
              · exact hrun.out t h1 (by omega)
            clear heq
            generalize pf pts a = x at hca hcb hrun1
            go_wp2_with fail
            go_big_quiet (fail)
            go_wp2_with fail
            go_roundw
            case rel => exact ⟨b + 1, by go_num, by omega, by omega, hrun1, hR.drewN _⟩
            case measure => simp [intOf]; omega
          · have hab1 : a < b := by
              by_cases e : a = b
              · subst e; exact absurd rfl heq
              · omega
            have hrn : Run (pf pts) n a b := ⟨fun t ht => hlo.out t ht hlt, hrun.out, fun _ => heq⟩
            generalize hx : pf pts a = x at hca heq
            generalize hz : pf pts b = z at hcb heq
            have hne : (z == x) = false := by simp [heq]
            clear heq hx hz
            go_wp2_with fail
            go_big_quiet (fail)
            go_wp2_with fail
            obtain ⟨y, hy⟩ : ∃ y, pf pts a = y := ⟨_, rfl⟩
            have hhere : Hid (At (pf pts) n y a) := by have := run_here hrn Hu.out hab1 hbi; rw [hy] at this; exact this
            have hpast : Hid (At (pf pts) n (y + 1) b) := by have := run_past hrn Hu.out hab1 hbi; rw [hy] at this; exact this
            have hnext : Hid (∀ t, t < b → b < n → pf pts t < pf pts b) := run_then hrn Hu.out hab1
            have heqs : Hid (∀ t, a ≤ t → t < b → pf pts t = y) := by intro t h1 h2; rw [← hy]; exact hrn.eq t h1 h2
            have hyb : 0 ≤ y ∧ y < 4294967296 := by rw [← hy]; exact Hf.out a (by omega)
            obtain ⟨hy0, hy1⟩ := hyb
            clear hrn hrun hlo hy
            go_loopw [10] (fun kv wr => ∃ k : Nat, kv = .int .i64 k ∧ a ≤ k ∧ k ≤ b ∧ Rg w' wr B W O n q (.slice na1 m mc1) pts) (fun kv _ => b - (intOf kv).toNat)
            case atStart => exact ⟨a, rfl, by omega, by omega, hR.drewN _⟩
            case round =>
              clear hR
              obtain ⟨k, rfl, hak, hkb, hR⟩ := hrel
              by_cases hkl : k < b
              · have hck := hR.wd.cell (j := k) (by omega)
                rw [heqs.out k hak hkl] at hck
                have hli : (k : Int) < (n : Int) := by omega
                go_wp2_with fail
                refine (zzFirst_any B W n (pf pts) y _ _ _ _ _ _ hn1 hy0 hy1 hR.b hR.wd Hf Hu).mono ?_
                rintro e w' ⟨k', rfl, rfl, hk'⟩
                obtain rfl := first_in hk'.out hhere.out hlt
                go_wp2_with fail
                go_roundw
                case rel => exact ⟨k + 1, by go_num, by omega, by omega, hR⟩
                case measure => simp [intOf]; omega
              · have hca := hR.wd.cell (j := a) (by omega)
                rw [heqs.out a (by omega) hab1] at hca
                have hli : (a : Int) < (n : Int) := by omega
                by_cases hyF : y = 4294967295
                · subst hyF
                  go_wp2_with fail
                  go_roundw
                  case rel => exact ⟨b, rfl, by omega, hnext, hR⟩
                  case measure => simp [intOf]; omega
                · have hyn : (y == 4294967295) = false := by simp [hyF]
                  have hbn : ¬ b = n := by omega
                  have hbl : b < n := by omega
                  have hbf : (b == n) = false := by simp [hbn]
                  have hbf2 : ((b : Int) == (n : Int)) = false := by simp; omega
                  go_wp2_with fail
                  refine (zzFirst_any B W n (pf pts) (y + 1) _ _ _ _ _ _ hn1 (by omega) (by omega) hR.b hR.wd Hf Hu).mono ?_
                  rintro e w' ⟨k', rfl, rfl, hk'⟩
                  obtain rfl := first_in hk'.out hpast.out hbl
                  go_wp2_with fail
                  go_roundw
                  case rel => exact ⟨k', rfl, by omega, hnext, hR⟩
                  case measure => simp [intOf]; omega
        · have hab1 : a < b := by omega
          have hrn : Run (pf pts) n a b := ⟨fun t ht => hlo.out t ht hlt, hrun.out, fun h => absurd h hb⟩
          have hd : decide ((b : Int) < (n : Int)) = false := decide_eq_false (by omega)
          have hd2 : decide (b < n) = false := decide_eq_false hb
          go_wp2_with fail
          go_big_quiet (fail)
          go_wp2_with fail
          obtain ⟨y, hy⟩ : ∃ y, pf pts a = y := ⟨_, rfl⟩
          have hhere : Hid (At (pf pts) n y a) := by have := run_here hrn Hu.out hab1 hbi; rw [hy] at this; exact this
          have hpast : Hid (At (pf pts) n (y + 1) b) := by have := run_past hrn Hu.out hab1 hbi; rw [hy] at this; exact this
          have hnext : Hid (∀ t, t < b → b < n → pf pts t < pf pts b) := run_then hrn Hu.out hab1
          have heqs : Hid (∀ t, a ≤ t → t < b → pf pts t = y) := by intro t h1 h2; rw [← hy]; exact hrn.eq t h1 h2
          have hyb : 0 ≤ y ∧ y < 4294967296 := by rw [← hy]; exact Hf.out a (by omega)
          obtain ⟨hy0, hy1⟩ := hyb
          clear hrn hrun hlo hy
          go_loopw [10] (fun kv wr => ∃ k : Nat, kv = .int .i64 k ∧ a ≤ k ∧ k ≤ b ∧ Rg w' wr B W O n q (.slice na1 m mc1) pts) (fun kv _ => b - (intOf kv).toNat)
          case atStart => exact ⟨a, rfl, by omega, by omega, hR.drewN _⟩
          case round =>
            clear hR
            obtain ⟨k, rfl, hak, hkb, hR⟩ := hrel
            by_cases hkl : k < b
            · have hck := hR.wd.cell (j := k) (by omega)
              rw [heqs.out k hak hkl] at hck
              have hli : (k : Int) < (n : Int) := by omega
              go_wp2_with fail
              refine (zzFirst_any B W n (pf pts) y _ _ _ _ _ _ hn1 hy0 hy1 hR.b hR.wd Hf Hu).mono ?_
              rintro e w' ⟨k', rfl, rfl, hk'⟩
              obtain rfl := first_in hk'.out hhere.out hlt
              go_wp2_with fail
              go_roundw
              case rel => exact ⟨k + 1, by go_num, by omega, by omega, hR⟩
              case measure => simp [intOf]; omega
            · have hca := hR.wd.cell (j := a) (by omega)
              rw [heqs.out a (by omega) hab1] at hca
              have hli : (a : Int) < (n : Int) := by omega
              by_cases hyF : y = 4294967295
              · subst hyF
                go_wp2_with fail
                go_roundw
                case rel => exact ⟨b, rfl, by omega, hnext, hR⟩
                case measure => simp [intOf]; omega
              · have hyn : (y == 4294967295) = false := by simp [hyF]
                have hbn : b = n := by omega
                subst hbn
                go_wp2_with fail
                refine (zzFirst_any B W b (pf pts) (y + 1) _ _ _ _ _ _ hn1 (by omega) (by omega) hR.b hR.wd Hf Hu).mono ?_
                rintro e w' ⟨k', rfl, rfl, hk'⟩
                obtain rfl := first_out hk'.out hpast.out
                rw [show ((0 : Nat) : Int) = 0 from rfl]
                go_wp2_with fail
                go_roundw
                case rel => exact ⟨b, rfl, by omega, hnext, hR⟩
                case measure => simp [intOf]; omega
    · go_wp2_with fail
      go_ret
      exact ⟨rfl, hR.below⟩
end Go.Proofs.Qxb6000402aMods
