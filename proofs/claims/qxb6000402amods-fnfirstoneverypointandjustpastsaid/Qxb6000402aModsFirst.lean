import Derived.Test.Qxb6000402aModsHelp
namespace Go.Proofs.Qxb6000402aMods
open Go.RowKit Mem Deal
set_option linter.unusedVariables false

theorem and_ones (h : Nat) (hh : h < 9223372036854775808) : bits .and .i64 (h : Int) (-1) = (h : Int) := by
  show IntKind.i64.wrap ((BitVec.ofInt 64 (h : Int) &&& BitVec.ofInt 64 (-1)).toNat : Int) = _
  rw [show BitVec.ofInt 64 (-1) = BitVec.allOnes 64 by decide, BitVec.and_allOnes, BitVec.ofInt_natCast, BitVec.toNat_ofNat, IntKind.wrap_i64]
  omega
theorem and_none (h : Int) : bits .and .i64 h 0 = 0 := by
  show IntKind.i64.wrap ((BitVec.ofInt 64 h &&& BitVec.ofInt 64 0).toNat : Int) = _
  rw [show BitVec.ofInt 64 0 = 0#64 by decide, BitVec.and_zero, IntKind.wrap_i64]
  decide

/-- The place of the first that is not below x. -/
def At (f : Nat → Int) (n : Nat) (x : Int) (k : Nat) : Prop := k ≤ n ∧ (∀ i, i < k → f i < x) ∧ (∀ i, k ≤ i → i < n → x ≤ f i)
def Up (f : Nat → Int) (n : Nat) : Prop := ∀ i j, i ≤ j → j < n → f i ≤ f j
/-- The search is between b and b + c. -/
def Bt (f : Nat → Int) (n : Nat) (x : Int) (b c : Nat) : Prop := b + c ≤ n ∧ (∀ i, i < b → f i < x) ∧ (∀ i, b + c ≤ i → i < n → x ≤ f i)
theorem bt_up {f : Nat → Int} {n b c h : Nat} {x : Int} (H : Bt f n x b c) (hu : Up f n) (h1 : 1 ≤ h) (h2 : h ≤ c) (hx : f (b + h - 1) < x) : Bt f n x (b + h) (c - h) := by
  obtain ⟨a1, a2, a3⟩ := H
  refine ⟨by omega, fun i hi => ?_, fun i h1 h2 => a3 i (by omega) h2⟩
  have := hu i (b + h - 1) (by omega) (by omega)
  omega
theorem bt_down {f : Nat → Int} {n b c h : Nat} {x : Int} (H : Bt f n x b c) (hu : Up f n) (h1 : 1 ≤ h) (h2 : 2 * h ≤ c) (hx : x ≤ f (b + h - 1)) : Bt f n x b (c - h) := by
  obtain ⟨a1, a2, a3⟩ := H
  refine ⟨by omega, a2, fun i h1 h2 => ?_⟩
  have := hu (b + h - 1) i (by omega) h2
  omega

set_option maxRecDepth 100000 in
set_option maxHeartbeats 2000000 in
theorem after_any (W n : Nat) (f : Nat → Int) (x : Int) (w : World) (hn : n ≤ 131072) (hx0 : 0 ≤ x) (hx1 : x < 4294967296) (hW : FRow w W 36 .u32 n f) (Hf : Hid (∀ i, i < n → 0 ≤ f i ∧ f i < 4294967296)) (Hu : Hid (Up f n)) :
    Calls Trym.prog 28 #[.slice (some ⟨W, 0, none⟩) n n, .int .u32 x] w fun e w' => ∃ k : Nat, e = .returned (.int .i64 k) ∧ w' = w ∧ Hid (At f n x k) := by
  go_enter Trym.func28, Trym.ntmps28
  go_wp2_with fail
  go_loop [5, 6] (fun bv cv => ∃ b c : Nat, bv = .int .i64 b ∧ cv = .int .i64 c ∧ b + c ≤ n ∧ (0 < n → 0 < c) ∧ Hid (Bt f n x b c)) (fun _ cv => (intOf cv).toNat)
  case atStart => exact ⟨0, n, rfl, rfl, by omega, fun h => h, ⟨by omega, fun i hi => by omega, fun i h1 h2 => by omega⟩⟩
  case round =>
    obtain ⟨b, c, rfl, rfl, hbc, hc0, hbt⟩ := hrel
    by_cases hc : 1 < c
    · obtain ⟨h, hh⟩ : ∃ h, h = c / 2 := ⟨_, rfl⟩
      have hh1 : 1 ≤ h := by omega
      have hh2 : 2 * h ≤ c := by omega
      have hq : (c : Int).tdiv 2 = (h : Int) := by rw [hh]; rfl
      have hidx : b + h - 1 < n := by omega
      have hcell := hW.cell hidx
      obtain ⟨hf0, hf1⟩ := Hf.out _ hidx
      have hix : (0 : Int) ≤ (b : Int) + (h : Int) - 1 := by omega
      have hix2 : (b : Int) + (h : Int) - 1 < (n : Int) := by omega
      clear hh
      by_cases hlt : f (b + h - 1) < x
      · have hbt1 : Hid (Bt f n x (b + h) (c - h)) := bt_up hbt.out Hu.out hh1 (by omega) hlt
        generalize f (b + h - 1) = y at hcell hlt hf0 hf1
        have hd : (y - x) / 9223372036854775808 = -1 := by omega
        have hb : bits .and .i64 (h : Int) ((y - x) / 9223372036854775808) = (h : Int) := by rw [hd]; exact and_ones h (by omega)
        clear hd
        go_wp2_with fail
        refine ⟨⟨b + h, c - h, by go_num, by go_num, by omega, by omega, hbt1⟩, by simp [intOf]; omega⟩
      · have hbt1 : Hid (Bt f n x b (c - h)) := bt_down hbt.out Hu.out hh1 (by omega) (by omega)
        generalize f (b + h - 1) = y at hcell hlt hf0 hf1
        have hd : (y - x) / 9223372036854775808 = 0 := by omega
        have hb : bits .and .i64 (h : Int) ((y - x) / 9223372036854775808) = 0 := by rw [hd]; exact and_none h
        clear hd
        go_wp2_with fail
        refine ⟨⟨b, c - h, rfl, by go_num, by omega, by omega, hbt1⟩, by simp [intOf]; omega⟩
    · obtain ⟨a1, a2, a3⟩ := hbt.out
      by_cases hc1 : c = 1
      · subst hc1
        have hbn : b < n := by omega
        have hcell := hW.cell hbn
        have hli : (b : Int) < (n : Int) := by omega
        by_cases hlt : f b < x
        · have hat : Hid (At f n x (b + 1)) := ⟨by omega, fun i hi => by
            by_cases e : i = b
            · rw [e]; exact hlt
            · exact a2 i (by omega), a3⟩
          generalize f b = y at hcell hlt
          clear a1 a2 a3
          go_wp2_with fail
          go_ret
          exact ⟨b + 1, by go_num, rfl, hat⟩
        · have hat : Hid (At f n x b) := ⟨by omega, a2, fun i h1 h2 => by
            have := Hu.out b i h1 h2
            omega⟩
          generalize f b = y at hcell hlt
          clear a1 a2 a3
          go_wp2_with fail
          go_ret
          exact ⟨b, rfl, rfl, hat⟩
      · have hc2 : c = 0 := by omega
        subst hc2
        have hat : Hid (At f n x b) := ⟨by omega, a2, a3⟩
        clear a1 a2 a3
        go_wp2_with fail
        go_ret
        exact ⟨b, rfl, rfl, hat⟩

set_option maxHeartbeats 400000 in
theorem size_any (B n c : Nat) (o : Option Addr) (v0 v1 v2 v4 v5 : Value) (w : World) (h : Row w B 30 [v0, v1, v2, .slice o n c, v4, v5]) :
    Calls Trym.prog 30 #[.pointer (some ⟨B, 0, none⟩)] w fun e w' => e = .returned (.int .i64 n) ∧ w' = w := by
  have hc := h.cell 3
  simp only [List.getElem?_cons_succ, List.getElem?_cons_zero] at hc
  go_enter Trym.func30, Trym.ntmps30
  go_wp2
  go_ret
  exact ⟨rfl, rfl⟩

/-- What 'first' says: the place, or 0 behind the last. -/
def FirstAt (f : Nat → Int) (n : Nat) (x : Int) (k : Nat) : Prop := (k < n ∧ At f n x k) ∨ (k = 0 ∧ At f n x n)

set_option maxRecDepth 100000 in
set_option maxHeartbeats 2000000 in
theorem first_any (B W n : Nat) (f : Nat → Int) (x : Int) (v1 o v4 v5 : Value) (ob : Option Addr) (oc : Nat) (w : World) (hn : n ≤ 131072) (hx0 : 0 ≤ x) (hx1 : x < 4294967296)
    (hB : Row w B 30 [.slice (some ⟨W, 0, none⟩) n n, v1, .slice none 0 0, .slice ob n oc, v4, v5]) (hW : FRow w W 36 .u32 n f) (Hf : Hid (∀ i, i < n → 0 ≤ f i ∧ f i < 4294967296)) (Hu : Hid (Up f n)) :
    Calls Trym.prog 26 #[.pointer (some ⟨B, 0, none⟩), .int .u32 x] w fun e w' => ∃ k : Nat, e = .returned (.int .i64 k) ∧ w' = w ∧ Hid (FirstAt f n x k) := by
  have hnil := fun wx => Lib.run_eql_slice_nil (P := Trym.prog) wx 27 36 none 0 0 0 0 Trym.underlying27
  have hc0 := hB.cell 0
  have hc2 := hB.cell 2
  simp only [List.getElem?_cons_succ, List.getElem?_cons_zero] at hc0 hc2
  go_enter Trym.func26, Trym.ntmps26
  go_wp2_with fail
  refine (after_any W n f x w hn hx0 hx1 hW Hf Hu).mono ?_
  rintro e w' ⟨k, rfl, rfl, hk⟩
  have hkn := hk.out.1
  go_wp2_with fail
  refine (size_any B n oc ob _ _ _ _ _ _ hB).mono ?_
  rintro e w' ⟨rfl, rfl⟩
  by_cases hkl : k < n
  · have hne : ¬ k = n := by omega
    have hne2 : ¬ (k : Int) = (n : Int) := by omega
    go_wp2_with fail
    go_ret
    exact ⟨k, rfl, rfl, .inl ⟨hkl, hk.out⟩⟩
  · have e : k = n := by omega
    subst e
    go_wp2_with fail
    go_ret
    exact ⟨0, rfl, rfl, .inr ⟨rfl, hk.out⟩⟩

set_option maxHeartbeats 400000 in
theorem zzFirst_any (B W n : Nat) (f : Nat → Int) (x : Int) (v1 v4 v5 : Value) (ob : Option Addr) (oc : Nat) (w : World) (hn : n ≤ 131072) (hx0 : 0 ≤ x) (hx1 : x < 4294967296)
    (hB : Row w B 30 [.slice (some ⟨W, 0, none⟩) n n, v1, .slice none 0 0, .slice ob n oc, v4, v5]) (hW : FRow w W 36 .u32 n f) (Hf : Hid (∀ i, i < n → 0 ≤ f i ∧ f i < 4294967296)) (Hu : Hid (Up f n)) :
    Calls Trym.prog 22 #[.pointer (some ⟨B, 0, none⟩), .int .u32 x] w fun e w' => ∃ k : Nat, e = .returned (.int .i64 k) ∧ w' = w ∧ Hid (FirstAt f n x k) := by
  go_enter Trym.func22, Trym.ntmps22
  go_wp2_with fail
  refine (first_any B W n f x v1 v1 v4 v5 ob oc w hn hx0 hx1 hB hW Hf Hu).mono ?_
  rintro e w' ⟨k, rfl, rfl, hk⟩
  go_wp2_with fail
  go_ret
  exact ⟨k, rfl, rfl, hk⟩
end Go.Proofs.Qxb6000402aMods
