import Derived.Test.Qxb6602314aModsMap
namespace Go.Proofs.Qxb6602314aMods
open Go.RowKit Go.Maps
set_option linter.unusedVariables false

/-- The entries, wherever they lie: a key and a number each. -/
def GotIn (w : World) (a : Option Addr) (n : Nat) (ks : Nat → ByteArray) (ns : Nat → Int) : Prop :=
  0 < n → ∃ b off, a = some ⟨b, off, none⟩ ∧ b < w.heap.size ∧ (∀ j, j < n → w.cell? ⟨b, off + j * 2, none⟩ = some (.string (ks j))) ∧ ∀ j, j < n → w.cell? ⟨b, off + j * 2 + 1, none⟩ = some (.int .i64 (ns j))
def NmsIn (w : World) (a : Option Addr) (m : Nat) (f : Nat → ByteArray) : Prop :=
  0 < m → ∃ b off, a = some ⟨b, off, none⟩ ∧ b < w.heap.size ∧ ∀ j, j < m → w.cell? ⟨b, off + j, none⟩ = some (.string (f j))

set_option maxHeartbeats 1000000 in
theorem namesBytes_any (a : Option Addr) (m c : Nat) (f : Nat → ByteArray) (z : Int) (w : World) (hz0 : 0 ≤ z) (hz1 : z ≤ 1099540000000) (hm : m ≤ 1048576) (h : Hid (NmsIn w a m f)) (hs : Hid (∀ j, j < m → (f j).size ≤ 1048576)) :
    Calls Trym.prog 10 #[.slice a m c, .int .i64 z] w fun e w' => ∃ z', e = .returned (.int .i64 z') ∧ w' = w := by
  go_enter Trym.func10, Trym.ntmps10
  go_wp2_with fail
  go_loop [1, 5] (fun tv iv => ∃ (t : Int) (i : Nat), tv = .int .i64 t ∧ iv = .int .i64 i ∧ i ≤ m ∧ 0 ≤ t ∧ t ≤ 1099560000000 + 1048576 * (i : Int)) (fun _ iv => m - (intOf iv).toNat)
  case atStart => exact ⟨z + 16 * m, 0, by go_num, rfl, by omega, by omega, by omega⟩
  case round =>
    obtain ⟨t, i, rfl, rfl, hi, ht0, ht1⟩ := hrel
    by_cases hlt : i < m
    · by_cases htc : t ≤ 1048576
      · obtain ⟨b, off, hx, hb, hc⟩ := h.out (by omega)
        subst hx
        have hci := hc i hlt
        have hsz := hs.out i hlt
        generalize f i = y at hci hsz
        clear hc
        go_wp2_with fail
        refine ⟨⟨t + y.size, i + 1, by go_num, by go_num, by omega, by omega, by omega⟩, by simp [intOf]; omega⟩
      · go_wp2_with fail
        go_ret
        exact ⟨⟨_, rfl⟩, rfl⟩
    · go_wp2_with fail
      go_ret
      exact ⟨⟨_, rfl⟩, rfl⟩

set_option maxHeartbeats 1000000 in
theorem entriesBytes_any (a : Option Addr) (m c : Nat) (f : Nat → ByteArray) (ns : Nat → Int) (z : Int) (w : World) (hz0 : 0 ≤ z) (hz1 : z ≤ 0) (hm : m ≤ 1048576) (h : Hid (GotIn w a m f ns)) (hs : Hid (∀ j, j < m → (f j).size ≤ 1048576)) :
    Calls Trym.prog 11 #[.slice a m c, .int .i64 z] w fun e w' => ∃ z', e = .returned (.int .i64 z') ∧ w' = w ∧ 0 ≤ z' ∧ z' ≤ 1099540000000 := by
  go_enter Trym.func11, Trym.ntmps11
  go_wp2_with fail
  go_loop [1, 5] (fun tv iv => ∃ (t : Int) (i : Nat), tv = .int .i64 t ∧ iv = .int .i64 i ∧ i ≤ m ∧ 0 ≤ t ∧ t ≤ 26214400 + 1048576 * (i : Int)) (fun _ iv => m - (intOf iv).toNat)
  case atStart => exact ⟨z + 24 * m, 0, by go_num, rfl, by omega, by omega, by omega⟩
  case round =>
    obtain ⟨t, i, rfl, rfl, hi, ht0, ht1⟩ := hrel
    by_cases hlt : i < m
    · by_cases htc : t ≤ 1048576
      · obtain ⟨b, off, hx, hb, hc, _⟩ := h.out (by omega)
        subst hx
        have hci := hc i hlt
        have hsz := hs.out i hlt
        generalize f i = y at hci hsz
        clear hc
        go_wp2_with fail
        refine ⟨⟨t + y.size, i + 1, by go_num, by go_num, by omega, by omega, by omega⟩, by simp [intOf]; omega⟩
      · go_wp2_with fail
        go_ret
        exact ⟨_, rfl, rfl, by omega, by omega⟩
    · go_wp2_with fail
      go_ret
      exact ⟨_, rfl, rfl, by omega, by omega⟩


set_option maxHeartbeats 2000000 in
theorem zzBytes_any (a b : Option Addr) (n c m d : Nat) (ks : Nat → ByteArray) (ns : Nat → Int) (f : Nat → ByteArray) (x y : Int) (w : World) (hn : n ≤ 9223372036854775807) (hm : m ≤ 9223372036854775807) (hg : Hid (GotIn w a n ks ns)) (h : Hid (NmsIn w b m f))
    (hks : Hid (∀ j, j < n → (ks j).size ≤ 9223372036854775807)) (hfs : Hid (∀ j, j < m → (f j).size ≤ 9223372036854775807)) :
    Calls Trym.prog 16 #[.slice a n c, .slice b m d, .int .i64 x, .int .i64 y] w fun e w' => (e = .returned (.bool false) ∧ w' = w) ∨ (e = .returned (.bool true) ∧ w' = w ∧ Hid (n ≤ 1048576 ∧ m ≤ 1048576 ∧ (∀ j, j < n → (ks j).size ≤ 1048576) ∧ (∀ j, j < m → (f j).size ≤ 1048576))) := by
  go_enter Trym.func16, Trym.ntmps16
  by_cases hn1 : n ≤ 1048576
  · go_wp2_with fail
    go_loop [9, 10] (fun tv iv => ∃ t i : Nat, tv = .int .i64 t ∧ iv = .int .i64 i ∧ i ≤ n ∧ t ≤ 1048576 ∧ Hid (∀ j, j < i → (ks j).size ≤ 1048576)) (fun _ iv => n - (intOf iv).toNat)
    case atStart => exact ⟨n, 0, by go_num, rfl, by omega, by omega, fun j hj => by omega⟩
    case round =>
      obtain ⟨t, i, rfl, rfl, hi, ht, hlo⟩ := hrel
      by_cases hlt : i < n
      · obtain ⟨bb, off, hx, hb, hc, _⟩ := hg.out (by omega)
        subst hx
        have hci := hc i hlt
        have hsz := hks.out i hlt
        have hlo1 : (ks i).size ≤ 1048576 → Hid (∀ j, j < i + 1 → (ks j).size ≤ 1048576) := by
          intro h1 j hj
          by_cases e : j = i
          · rw [e]; exact h1
          · exact hlo.out j (by omega)
        generalize ks i = y at hci hsz hlo1
        clear hc
        by_cases h1 : y.size ≤ 1048576
        · by_cases h2 : t + y.size ≤ 1048576
          · go_wp2_with fail
            refine ⟨⟨t + y.size, i + 1, by go_num, by go_num, by omega, by omega, hlo1 h1⟩, by simp [intOf]; omega⟩
          · have h3 : (1048576 : Int) < (t : Int) + (y.size : Int) := by omega
            go_wp2_with fail
            go_ret
            exact .inl ⟨rfl, rfl⟩
        · go_wp2_with fail
          go_ret
          exact .inl ⟨rfl, rfl⟩
      · have e : i = n := by omega
        have hall : Hid (∀ j, j < n → (ks j).size ≤ 1048576) := by rw [← e]; exact hlo.out
        clear hlo
        by_cases hm1 : m ≤ 1048576
        · by_cases h2 : t + m ≤ 1048576
          · go_wp2_with fail
            go_loop [9, 11] (fun tv iv => ∃ t i : Nat, tv = .int .i64 t ∧ iv = .int .i64 i ∧ i ≤ m ∧ t ≤ 1048576 ∧ Hid (∀ j, j < i → (f j).size ≤ 1048576)) (fun _ iv => m - (intOf iv).toNat)
            case atStart => exact ⟨t + m, 0, by go_num, rfl, by omega, by omega, fun j hj => by omega⟩
            case round =>
              obtain ⟨t, i, rfl, rfl, hi, ht, hlo⟩ := hrel
              by_cases hlt : i < m
              · obtain ⟨bb, off, hx, hb, hc⟩ := h.out (by omega)
                subst hx
                have hci := hc i hlt
                have hsz := hfs.out i hlt
                have hlo1 : (f i).size ≤ 1048576 → Hid (∀ j, j < i + 1 → (f j).size ≤ 1048576) := by
                  intro h1 j hj
                  by_cases e : j = i
                  · rw [e]; exact h1
                  · exact hlo.out j (by omega)
                generalize f i = y at hci hsz hlo1
                clear hc
                by_cases h1 : y.size ≤ 1048576
                · by_cases h2 : t + y.size ≤ 1048576
                  · go_wp2_with fail
                    refine ⟨⟨t + y.size, i + 1, by go_num, by go_num, by omega, by omega, hlo1 h1⟩, by simp [intOf]; omega⟩
                  · have h3 : (1048576 : Int) < (t : Int) + (y.size : Int) := by omega
                    go_wp2_with fail
                    go_ret
                    exact .inl ⟨rfl, rfl⟩
                · go_wp2_with fail
                  go_ret
                  exact .inl ⟨rfl, rfl⟩
              · have e : i = m := by omega
                have hall2 : ∀ j, j < m → (f j).size ≤ 1048576 := by rw [← e]; exact hlo.out
                go_wp2_with fail
                go_ret
                exact .inr ⟨rfl, rfl, ⟨hall.out, hall2⟩⟩
          · have h3 : (1048576 : Int) < (t : Int) + (m : Int) := by omega
            go_wp2_with fail
            go_ret
            exact .inl ⟨rfl, rfl⟩
        · go_wp2_with fail
          go_ret
          exact .inl ⟨rfl, rfl⟩
  · go_wp2_with fail
    go_ret
    exact .inl ⟨rfl, rfl⟩

end Go.Proofs.Qxb6602314aMods
