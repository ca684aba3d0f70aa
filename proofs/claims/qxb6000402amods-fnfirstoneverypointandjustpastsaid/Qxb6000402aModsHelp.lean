import Derived.Test.Qxb6000402aModsCircle
namespace Go.Proofs.Qxb6000402aMods
open Go.RowKit Mem Deal
set_option linter.unusedVariables false

theorem laid_store {w w1 : World} {R W O P n : Nat} {o : Obj} {pts : List Int} (h : Laid (w.alloc o) w1 W O P n pts) (hR : R = w.heap.size) (v0 v1 v2 v3 v4 v5 : Value) :
    Laid w ((((((w1.setCell ⟨R, 0, none⟩ v0).setCell ⟨R, 1, none⟩ v1).setCell ⟨R, 2, none⟩ v2).setCell ⟨R, 3, none⟩ v3).setCell ⟨R, 4, none⟩ v4).setCell ⟨R, 5, none⟩ v5) W O P n pts := by
  subst hR
  have hs : (w.alloc o).heap.size = w.heap.size + 1 := by simp
  have h1 := h.wl
  have h2 := h.ol
  have k : ∀ {wx : World} {B : Nat} {t : TypeId} {xs : List Value}, B ≠ w.heap.size → Row wx B t xs → ∀ (j : Nat) (v : Value), Row (wx.setCell ⟨w.heap.size, j, none⟩ v) B t xs := fun hne h j v => h.other _ _ hne
  have hk : Keeps [P] w w1 := (((Keeps.refl [] w).alloc o).more (by simp)).trans h.keep
  have hR : w.heap.size ≤ w.heap.size := Nat.le_refl _
  refine ⟨?_, ?_, ?_, by omega, by omega⟩
  · exact k (by omega) (k (by omega) (k (by omega) (k (by omega) (k (by omega) (k (by omega) h.wd _ _) _ _) _ _) _ _) _ _) _ _
  · exact k (by omega) (k (by omega) (k (by omega) (k (by omega) (k (by omega) (k (by omega) h.o _ _) _ _) _ _) _ _) _ _) _ _
  · exact (((((hk.set (.inr hR) _).set (.inr hR) _).set (.inr hR) _).set (.inr hR) _).set (.inr hR) _).set (.inr hR) _

set_option maxHeartbeats 1000000 in
theorem zzCircle_any (P n m mc : Nat) (na pa : Option Addr) (pts : List Int) (w : World) (hn : n ≤ 131072) (hm : m ≤ 65536) (Hl : Hid (pts.length = n)) (Hg : Hid (∀ p ∈ pts, Deal.Good p))
    (Hm : Hid (∀ p ∈ pts, own p < m)) (Hp : Hid (0 < n → pa = some ⟨P, 0, none⟩ ∧ FRow w P 37 .u64 n (fun j => pts.getD j 0))) (hP1 : P ≠ w.heap.size) (hP2 : P ≠ w.heap.size + 1) :
    Calls Trym.prog 13 #[.slice na m mc, .slice pa n n] w fun e w' => ∃ W O, e = .returned (circleV W O n (.slice na m mc) (dis m (owners pts))) ∧ Laid w w' W O P n pts := by
  go_enter Trym.func13, Trym.ntmps13
  go_wp2_with fail
  refine (circle_any P n m mc na pa pts _ hn hm Hl Hg Hm ?_ (by simpa using hP2)).mono ?_
  · intro h0
    obtain ⟨h1, h2⟩ := Hp.out h0
    exact ⟨h1, Row.alloc h2 _⟩
  rintro e w1 ⟨W, O, rfl, hL⟩
  have hr := (row_new w #[.slice none 0 0, .slice none 0 0, .slice none 0 0, .slice none 0 0, .slice none 0 0, .int .i64 0] 30).kept hL.keep (by simpa using fun e => hP1 e.symm)
  have hlaid := fun v0 v1 v2 v3 v4 v5 => laid_store hL rfl v0 v1 v2 v3 v4 v5
  have hr0 := hr.cell 0
  have hr1 := hr.cell 1
  have hr2 := hr.cell 2
  have hr3 := hr.cell 3
  have hr4 := hr.cell 4
  have hr5 := hr.cell 5
  simp only [List.getElem?_cons_succ, List.getElem?_cons_zero] at hr0 hr1 hr2 hr3 hr4 hr5
  have f0 := Row.frozen hr 0
  have f1 := Row.frozen hr 1
  have f2 := Row.frozen hr 2
  have f3 := Row.frozen hr 3
  have f4 := Row.frozen hr 4
  have f5 := Row.frozen hr 5
  obtain ⟨dd, hdd⟩ : ∃ dd, dd = dis m (owners pts) := ⟨_, rfl⟩
  rw [← hdd]
  have Hdd : Hid (dd = dis m (owners pts)) := hdd
  clear hdd
  unfold circleV
  go_wp2_with fail
  exact bodyPost_ret (v := circleV W O n (.slice na m mc) dd) (by simp [results, Trym.results13, go_sem, circleV, hr0, hr1, hr2, hr3, hr4, hr5]) rfl ⟨W, O, by rw [Hdd.out], hlaid _ _ _ _ _ _⟩

set_option maxHeartbeats 400000 in
theorem wide_any (B : Nat) (v0 v1 v2 v3 v4 v5 : Value) (w : World) (h : Row w B 30 [v0, v1, v2, v3, v4, v5]) :
    Calls Trym.prog 15 #[.pointer (some ⟨B, 0, none⟩)] w fun e w' => e = .returned v0 ∧ w' = w := by
  have hc := h.cell 0
  simp only [List.getElem?_cons_zero] at hc
  go_enter Trym.func15, Trym.ntmps15
  go_wp2
  go_ret
  exact ⟨rfl, rfl⟩
set_option maxHeartbeats 400000 in
theorem starts_any (B : Nat) (v0 v1 v2 v3 v4 v5 : Value) (w : World) (h : Row w B 30 [v0, v1, v2, v3, v4, v5]) :
    Calls Trym.prog 14 #[.pointer (some ⟨B, 0, none⟩)] w fun e w' => e = .returned v2 ∧ w' = w := by
  have hc := h.cell 2
  simp only [List.getElem?_cons_succ, List.getElem?_cons_zero] at hc
  go_enter Trym.func14, Trym.ntmps14
  go_wp2
  go_ret
  exact ⟨rfl, rfl⟩
set_option maxHeartbeats 400000 in
theorem owners_any (B : Nat) (v0 v1 v2 v3 v4 v5 : Value) (w : World) (h : Row w B 30 [v0, v1, v2, v3, v4, v5]) :
    Calls Trym.prog 16 #[.pointer (some ⟨B, 0, none⟩)] w fun e w' => e = .returned v3 ∧ w' = w := by
  have hc := h.cell 3
  simp only [List.getElem?_cons_succ, List.getElem?_cons_zero] at hc
  go_enter Trym.func16, Trym.ntmps16
  go_wp2
  go_ret
  exact ⟨rfl, rfl⟩
set_option maxHeartbeats 400000 in
theorem placed_any (B : Nat) (v0 v1 v2 v3 v4 v5 : Value) (w : World) (h : Row w B 30 [v0, v1, v2, v3, v4, v5]) :
    Calls Trym.prog 18 #[.pointer (some ⟨B, 0, none⟩)] w fun e w' => e = .returned v5 ∧ w' = w := by
  have hc := h.cell 5
  simp only [List.getElem?_cons_succ, List.getElem?_cons_zero] at hc
  go_enter Trym.func18, Trym.ntmps18
  go_wp2
  go_ret
  exact ⟨rfl, rfl⟩

theorem mask32 (x : Int) (h0 : 0 ≤ x) (h1 : x < 18446744073709551616) : bits .and .u64 x 4294967295 = x % 4294967296 := by
  rw [u64_and x 4294967295 h0 h1 (by decide) (by decide)]
  have e : x.toNat &&& (4294967295 : Int).toNat = x.toNat % 4294967296 := Nat.and_two_pow_sub_one_eq_mod x.toNat 32
  rw [e]
  omega
/-! ### The copies -/
/-- A slice of points that can be read, whatever it lies in. -/
def PtsIn (w : World) (a : Option Addr) (n : Nat) (pts : List Int) : Prop :=
  0 < n → ∃ b off, a = some ⟨b, off, none⟩ ∧ b < w.heap.size ∧ ∀ j, j < n → w.cell? ⟨b, off + j, none⟩ = some (.int .u64 (pts.getD j 0))
theorem PtsIn.kept {w w' : World} {a : Option Addr} {n : Nat} {pts : List Int} (h : PtsIn w a n pts) (k : Keeps [] w w') : PtsIn w' a n pts := by
  intro h0
  obtain ⟨b, off, h1, h2, h3⟩ := h h0
  exact ⟨b, off, h1, Nat.lt_of_lt_of_le h2 k.size, fun j hj => (World.cell?_of_block (a := ⟨b, off + j, none⟩) (k.block b h2 (by simp))).trans (h3 j hj)⟩
/-- A copy of the points, in a block of its own. -/
def PtsCopy (w : World) (a : Option Addr) (P n : Nat) (pts : List Int) : Prop := 0 < n → a = some ⟨P, 0, none⟩ ∧ FRow w P 37 .u64 n (fun j => pts.getD j 0)

theorem info37 : (Trym.prog.info? 37).map (fun i => (i.zero, i.size, i.bytes)) = some (some (.int .u64 0), 1, 8) := by kernel_rfl

set_option maxHeartbeats 400000 in
theorem copyPts_nil (w : World) : Calls Trym.prog 12 #[.slice none 0 0] w fun e w' => e = .returned (.slice none 0 0) ∧ w' = w := by
  have heq := fun wx => Lib.run_eql_slice_nil (P := Trym.prog) wx 23 37 none 0 0 0 0 Trym.underlying23
  go_enter Trym.func12, Trym.ntmps12
  go_wp2
  go_ret
  exact ⟨rfl, rfl⟩

set_option maxHeartbeats 1000000 in
theorem copyPts_some (x : Addr) (n c : Nat) (pts : List Int) (w : World) (hn : n ≤ 131072) (h : Hid (PtsIn w (some x) n pts)) :
    Calls Trym.prog 12 #[.slice (some x) n c] w fun e w' => e = .returned (.slice (some ⟨w.heap.size, 0, none⟩) n n) ∧ FRow w' w.heap.size 37 .u64 n (fun j => pts.getD j 0) ∧ Keeps [] w w' := by
  obtain ⟨i0, hi0, hz0, hz1, hz2⟩ := info_parts info37
  have heq := fun wx => Lib.run_eql_slice_nil (P := Trym.prog) wx 23 37 (some x) n c 0 0 Trym.underlying23
  go_enter Trym.func12, Trym.ntmps12
  go_wp2_with (at_make; refine wpList_make_full _ rfl _ _ 23 rfl w.heap.size 37 i0 (.int .u64 0) 1 Trym.underlying23 hi0 hz0 hz1 _ _ _ _ n rfl rfl rfl rfl (by rw [hz2]; omega) (by unfold maxLen; omega) (Nat.le_refl _) ?_; intro w1 hown hgrow; have hrow := made_row hown; have hk := keeps_grown hgrow; clear hown hgrow)
  go_loopw [4] (fun iv wr => ∃ (i : Nat) (g : Nat → Int), iv = .int .i64 i ∧ i ≤ n ∧ FRow wr w.heap.size 37 .u64 n g ∧ Hid (∀ j, j < i → g j = pts.getD j 0) ∧ Keeps [] w wr) (fun iv _ => n - (intOf iv).toNat)
  case atStart => exact ⟨0, _, rfl, by omega, hrow, (fun j hj => by omega), hk⟩
  case round =>
    clear hrow hk
    obtain ⟨i, g, rfl, hi, hrow, hg, hk⟩ := hrel
    by_cases hlt : i < n
    · obtain ⟨b, off, hx, hb, hc⟩ := h.out (by omega)
      injection hx with hx
      subst hx
      have hci : wr.cell? ⟨b, off + i, none⟩ = some (.int .u64 (pts.getD i 0)) := (World.cell?_of_block (a := ⟨b, off + i, none⟩) (hk.block b hb (by simp))).trans (hc i hlt)
      obtain ⟨y, hy⟩ : ∃ y, y = pts.getD i 0 := ⟨_, rfl⟩
      rw [← hy] at hci
      have HY : Hid (y = pts.getD i 0) := hy
      have hco := hrow.cell hlt
      have hfo := Row.frozen hrow i
      generalize hz : g i = z at hco
      clear hz hy hc
      have hrow1 := hrow.set i y
      have hk1 := hk.set (p := ⟨w.heap.size, i, none⟩) (.inr (Nat.le_refl _)) (.int .u64 y)
      have hg1 : Hid (∀ j, j < i + 1 → upd g i y j = pts.getD j 0) := by
        intro j hj
        simp only [upd]
        by_cases e : j = i
        · rw [if_pos e, e]; exact HY.out
        · rw [if_neg e]; exact hg.out j (by omega)
      go_wp2_with fail
      go_roundw
      case rel => exact ⟨i + 1, _, by go_num, by omega, hrow1, hg1, hk1⟩
      case measure => simp [intOf]; omega
    · have e : i = n := by omega
      subst e
      have hrow1 := hrow.congr hg.out
      go_wp2_with fail
      go_ret
      exact ⟨rfl, hrow1, hk⟩

/-! ### Names -/
def NmsIn (w : World) (a : Option Addr) (m : Nat) (f : Nat → ByteArray) : Prop :=
  0 < m → ∃ b off, a = some ⟨b, off, none⟩ ∧ b < w.heap.size ∧ ∀ j, j < m → w.cell? ⟨b, off + j, none⟩ = some (.string (f j))
theorem NmsIn.kept {S : List Nat} {w w' : World} {a : Option Addr} {n : Nat} {f : Nat → ByteArray} (h : NmsIn w a n f) (k : Keeps S w w') (hS : ∀ b off, a = some ⟨b, off, none⟩ → b ∉ S) : NmsIn w' a n f := by
  intro h0
  obtain ⟨b, off, h1, h2, h3⟩ := h h0
  exact ⟨b, off, h1, Nat.lt_of_lt_of_le h2 k.size, fun j hj => (World.cell?_of_block (a := ⟨b, off + j, none⟩) (k.block b h2 (hS b off h1))).trans (h3 j hj)⟩
def SRow (w : World) (B m : Nat) (f : Nat → ByteArray) : Prop := Row w B 9 ((List.range m).map (fun i => .string (f i)))
theorem SRow.cell {w : World} {B m : Nat} {f : Nat → ByteArray} (h : SRow w B m f) {v : Nat} (hv : v < m) : w.cell? ⟨B, v, none⟩ = some (.string (f v)) := by
  rw [Row.cell h]; simp [hv]
theorem SRow.set {w : World} {B m : Nat} {f : Nat → ByteArray} (h : SRow w B m f) (y : Nat) (x : ByteArray) : SRow (w.setCell ⟨B, y, none⟩ (.string x)) B m (fun v => if v = y then x else f v) := by
  have h1 := Row.set h y (.string x)
  unfold SRow
  have e : ((List.range m).map (fun v => Value.string (f v))).set y (.string x) = (List.range m).map (fun v => Value.string (if v = y then x else f v)) := by
    apply List.ext_getElem
    · simp
    · intro i h1 h2
      simp only [List.getElem_set, List.getElem_map, List.getElem_range]
      by_cases e : y = i
      · subst e; simp
      · rw [if_neg e, if_neg (fun h => e h.symm)]
  rw [← e]; exact h1
theorem made_strs {w w' : World} {n : Nat} {z : ByteArray} (h : w'.ownsRow w.heap.size 9 1 (.slice (some ⟨w.heap.size, 0, none⟩) n n) n (madeCells (Value.string z).cells (n * 1)).toList) : SRow w' w.heap.size n (fun _ => z) := by
  obtain ⟨hl, h | ⟨g, cap, cur, hv, _, hg, _, _, hs, ht⟩⟩ := h
  · cases h.1
  · simp only [Value.slice.injEq, Option.some.injEq, Addr.mk.injEq, true_and, and_true] at hv
    obtain ⟨rfl, rfl⟩ := hv
    have e1 : cur.toList = (List.range n).map (fun _ => Value.string z) := by
      have e2 : (madeCells (Value.string z).cells (n * 1)).toList = (List.range n).map (fun _ => Value.string z) := by
        show (madeCells #[Value.string z] (n * 1)).toList = _
        rw [toList_madeCells_one, List.map_const']
        simp
      rw [← e2, ← ht, List.take_of_length_le (by simp; omega)]
    unfold SRow Row
    rw [← e1]
    simpa using hg
theorem info9 : (Trym.prog.info? 9).map (fun i => (i.zero, i.size, i.bytes)) = some (some (.string ByteArray.empty), 1, 16) := by kernel_rfl

set_option maxHeartbeats 400000 in
theorem copyNms_nil (w : World) : Calls Trym.prog 11 #[.slice none 0 0] w fun e w' => e = .returned (.slice none 0 0) ∧ w' = w := by
  have heq := fun wx => Lib.run_eql_slice_nil (P := Trym.prog) wx 22 9 none 0 0 0 0 Trym.underlying22
  go_enter Trym.func11, Trym.ntmps11
  go_wp2
  go_ret
  exact ⟨rfl, rfl⟩

set_option maxHeartbeats 1000000 in
theorem copyNms_some (x : Addr) (n c : Nat) (f : Nat → ByteArray) (w : World) (hn : n ≤ 65536) (h : Hid (NmsIn w (some x) n f)) :
    Calls Trym.prog 11 #[.slice (some x) n c] w fun e w' => e = .returned (.slice (some ⟨w.heap.size, 0, none⟩) n n) ∧ NmsIn w' (some ⟨w.heap.size, 0, none⟩) n f ∧ Keeps [] w w' := by
  obtain ⟨i0, hi0, hz0, hz1, hz2⟩ := info_parts info9
  have heq := fun wx => Lib.run_eql_slice_nil (P := Trym.prog) wx 22 9 (some x) n c 0 0 Trym.underlying22
  go_enter Trym.func11, Trym.ntmps11
  go_wp2_with (at_make; refine wpList_make_full _ rfl _ _ 22 rfl w.heap.size 9 i0 (.string ByteArray.empty) 1 Trym.underlying22 hi0 hz0 hz1 _ _ _ _ n rfl rfl rfl rfl (by rw [hz2]; omega) (by unfold maxLen; omega) (Nat.le_refl _) ?_; intro w1 hown hgrow; have hrow := made_strs hown; have hk := keeps_grown hgrow; clear hown hgrow)
  go_loopw [4] (fun iv wr => ∃ (i : Nat) (g : Nat → ByteArray), iv = .int .i64 i ∧ i ≤ n ∧ SRow wr w.heap.size n g ∧ Hid (∀ j, j < i → g j = f j) ∧ Keeps [] w wr) (fun iv _ => n - (intOf iv).toNat)
  case atStart => exact ⟨0, _, rfl, by omega, hrow, (fun j hj => by omega), hk⟩
  case round =>
    clear hrow hk
    obtain ⟨i, g, rfl, hi, hrow, hg, hk⟩ := hrel
    by_cases hlt : i < n
    · obtain ⟨b, off, hx, hb, hc⟩ := h.out (by omega)
      injection hx with hx
      subst hx
      have hci : wr.cell? ⟨b, off + i, none⟩ = some (.string (f i)) := (World.cell?_of_block (a := ⟨b, off + i, none⟩) (hk.block b hb (by simp))).trans (hc i hlt)
      obtain ⟨y, hy⟩ : ∃ y, y = f i := ⟨_, rfl⟩
      rw [← hy] at hci
      have HY : Hid (y = f i) := hy
      have hco := hrow.cell hlt
      have hfo := Row.frozen hrow i
      generalize hz : g i = z at hco
      clear hz hy hc
      have hrow1 := hrow.set i y
      have hk1 := hk.set (p := ⟨w.heap.size, i, none⟩) (.inr (Nat.le_refl _)) (.string y)
      have hg1 : Hid (∀ j, j < i + 1 → (if j = i then y else g j) = f j) := by
        intro j hj
        by_cases e : j = i
        · rw [if_pos e, e]; exact HY.out
        · rw [if_neg e]; exact hg.out j (by omega)
      go_wp2_with fail
      go_roundw
      case rel => exact ⟨i + 1, _, by go_num, by omega, hrow1, hg1, hk1⟩
      case measure => simp [intOf]; omega
    · have e : i = n := by omega
      subst e
      have hfin : NmsIn wr (some ⟨w.heap.size, 0, none⟩) i f := fun h0 => ⟨w.heap.size, 0, rfl, Row.lt hrow, fun j hj => by rw [Nat.zero_add, hrow.cell hj, hg.out j hj]⟩
      go_wp2_with fail
      go_ret
      exact ⟨rfl, hfin, hk⟩

/-! ### The tests ahead -/
set_option maxHeartbeats 1000000 in
theorem nodes_any (na pa : Option Addr) (m mc n nc : Nat) (pts : List Int) (w : World) (hm : m ≤ 65536) (hn : n ≤ 131072) (h : Hid (PtsIn w pa n pts)) (Hl : Hid (pts.length = n)) (Hw : Hid (∀ p ∈ pts, 0 ≤ p ∧ p < 18446744073709551616)) :
    Calls Trym.prog 10 #[.slice na m mc, .slice pa n nc] w fun e w' => (e = .returned (.bool false) ∧ w' = w) ∨ (e = .returned (.bool true) ∧ w' = w ∧ ∀ p ∈ pts, p % 4294967296 < m) := by
  go_enter Trym.func10, Trym.ntmps10
  go_wp2_with fail
  go_loop [6] (fun iv => ∃ i : Nat, iv = .int .i64 i ∧ i ≤ n ∧ Hid (∀ j, j < i → pts.getD j 0 % 4294967296 < m)) (fun iv => n - (intOf iv).toNat)
  case atStart => exact ⟨0, rfl, by omega, fun j hj => by omega⟩
  case round =>
    obtain ⟨i, rfl, hi, hg⟩ := hrel
    by_cases hlt : i < n
    · obtain ⟨b, off, hx, hb, hc⟩ := h.out (by omega)
      subst hx
      have hci := hc i hlt
      have hbd := Hw.out _ (getD_mem pts i (by rw [Hl.out]; exact hlt))
      obtain ⟨y, hy⟩ : ∃ y, y = pts.getD i 0 := ⟨_, rfl⟩
      rw [← hy] at hci hbd
      have HY : Hid (y = pts.getD i 0) := hy
      clear hy hc
      obtain ⟨hb0, hb1⟩ := hbd
      have hand := mask32 y hb0 hb1
      by_cases ht : y % 4294967296 < m
      · have hg1 : Hid (∀ j, j < i + 1 → pts.getD j 0 % 4294967296 < m) := by
          intro j hj
          by_cases e : j = i
          · rw [e, ← HY.out]; exact ht
          · exact hg.out j (by omega)
        go_wp2_with fail
        go_round
        case rel => exact ⟨i + 1, by go_num, by omega, hg1⟩
        case measure => simp [intOf]; omega
      · go_wp2_with fail
        go_ret
        exact .inl ⟨rfl, rfl⟩
    · have hfin : ∀ p ∈ pts, p % 4294967296 < m := by
        intro p hp
        obtain ⟨j, hj, rfl⟩ := List.getElem_of_mem hp
        have := hg.out j (by have := Hl.out; omega)
        rw [show pts.getD j 0 = pts[j] by simp [List.getD, hj]] at this
        exact this
      go_wp2_with fail
      go_ret
      exact .inr ⟨rfl, rfl, hfin⟩

set_option maxHeartbeats 1000000 in
theorem bytes20 (na pa : Option Addr) (m mc n nc : Nat) (f : Nat → ByteArray)  (w : World) (hm : m ≤ 9223372036854775807) (hn : n ≤ 9223372036854775807) (h : Hid (NmsIn w na m f)) (Hs : Hid (∀ j, j < m → (f j).size ≤ 9223372036854775807)) :
    Calls Trym.prog 20 #[.slice na m mc, .slice pa n nc] w fun e w' => (e = .returned (.bool false) ∧ w' = w) ∨ (e = .returned (.bool true) ∧ w' = w ∧ ∀ j, j < m → (f j).size ≤ 1048576) := by
  by_cases h0 : 1048576 < m
  · go_enter Trym.func20, Trym.ntmps20
    go_wp2_with fail
    go_ret
    exact .inl ⟨rfl, rfl⟩
  · go_enter Trym.func20, Trym.ntmps20
    go_wp2_with fail
    go_loop [5, 6] (fun zv iv => ∃ (i z : Nat), zv = .int .i64 z ∧ iv = .int .i64 i ∧ i ≤ m ∧ z ≤ 1048576 ∧ Hid (∀ j, j < i → (f j).size ≤ 1048576)) (fun _ iv => m - (intOf iv).toNat)
    case atStart => exact ⟨0, m, by go_num, rfl, by omega, by omega, fun j hj => by omega⟩
    case round =>
      obtain ⟨i, z, rfl, rfl, hi, hz, hg⟩ := hrel
      by_cases hlt : i < m
      · obtain ⟨b, off, hx, hb, hc⟩ := h.out (by omega)
        subst hx
        have hci := hc i hlt
        have hsz := Hs.out i hlt
        obtain ⟨y, hy⟩ : ∃ y, y = f i := ⟨_, rfl⟩
        rw [← hy] at hci hsz
        have HY : Hid (y = f i) := hy
        clear hy hc
        by_cases h1 : 1048576 < y.size
        · go_wp2_with fail
          go_ret
          exact .inl ⟨rfl, rfl⟩
        · by_cases h2 : 1048576 < z + y.size
          · go_wp2_with fail
            go_ret
            exact .inl ⟨rfl, rfl⟩
          · have hg1 : Hid (∀ j, j < i + 1 → (f j).size ≤ 1048576) := by
              intro j hj
              by_cases e : j = i
              · rw [e, ← HY.out]; omega
              · exact hg.out j (by omega)
            go_wp2_with fail
            go_round
            case rel => exact ⟨i + 1, z + y.size, by go_num, by go_num, by omega, by omega, hg1⟩
            case measure => simp [intOf]; omega
      · have hfin : ∀ j, j < m → (f j).size ≤ 1048576 := fun j hj => hg.out j (by omega)
        by_cases h1 : 1048576 < n
        · go_wp2_with fail
          go_ret
          exact .inl ⟨rfl, rfl⟩
        · by_cases h2 : 1048576 < z + n
          · go_wp2_with fail
            go_ret
            exact .inl ⟨rfl, rfl⟩
          · go_wp2_with fail
            go_ret
            exact .inr ⟨rfl, rfl, hfin⟩

set_option maxHeartbeats 1000000 in
theorem over_any (na pa : Option Addr) (m mc n nc : Nat) (f : Nat → ByteArray) (w : World) (hm : m ≤ 9223372036854775807) (hn : n ≤ 9223372036854775807) (h : Hid (NmsIn w na m f)) (Hs : Hid (∀ j, j < m → (f j).size ≤ 1048576)) :
    Calls Trym.prog 9 #[.slice na m mc, .slice pa n nc] w fun e w' => (e = .returned (.bool true) ∧ w' = w) ∨ (e = .returned (.bool false) ∧ w' = w ∧ m ≤ 65536 ∧ n ≤ 131072) := by
  by_cases h0 : 65536 < m
  · go_enter Trym.func9, Trym.ntmps9
    go_wp2_with fail
    go_ret
    exact .inl ⟨rfl, rfl⟩
  · by_cases h1 : 131072 < n
    · go_enter Trym.func9, Trym.ntmps9
      go_wp2_with fail
      go_ret
      exact .inl ⟨rfl, rfl⟩
    · go_enter Trym.func9, Trym.ntmps9
      go_wp2_with fail
      go_loop [5, 6] (fun tv iv => ∃ (i t : Nat), tv = .int .i64 t ∧ iv = .int .i64 i ∧ i ≤ m ∧ t ≤ 4194304) (fun _ iv => m - (intOf iv).toNat)
      case atStart => exact ⟨0, m * 16 + n * 8, by go_num, rfl, by omega, by omega⟩
      case round =>
        obtain ⟨i, t, rfl, rfl, hi, ht⟩ := hrel
        by_cases hlt : i < m
        · obtain ⟨b, off, hx, hb, hc⟩ := h.out (by omega)
          subst hx
          have hci := hc i hlt
          have hsz := Hs.out i hlt
          generalize f i = y at hci hsz
          clear hc
          by_cases h2 : 1048576 < t + y.size
          · go_wp2_with fail
            go_ret
            exact .inl ⟨rfl, rfl⟩
          · go_wp2_with fail
            go_round
            case rel => exact ⟨i + 1, t + y.size, by go_num, by go_num, by omega, by omega⟩
            case measure => simp [intOf]; omega
        · by_cases h2 : 1048576 < t
          · have hd : decide ((1048576 : Int) < (t : Int)) = true := decide_eq_true (by omega)
            go_wp2_with fail
            go_ret
            exact .inl ⟨rfl, rfl⟩
          · have hd : decide ((1048576 : Int) < (t : Int)) = false := decide_eq_false (by omega)
            go_wp2_with fail
            go_ret
            exact .inr ⟨rfl, rfl, by omega, by omega⟩

set_option maxHeartbeats 1000000 in
theorem bytes8 (na pa : Option Addr) (m mc n nc : Nat) (f : Nat → ByteArray)  (w : World) (hm : m ≤ 9223372036854775807) (hn : n ≤ 9223372036854775807) (h : Hid (NmsIn w na m f)) (Hs : Hid (∀ j, j < m → (f j).size ≤ 9223372036854775807)) :
    Calls Trym.prog 8 #[.slice na m mc, .slice pa n nc] w fun e w' => (e = .returned (.bool false) ∧ w' = w) ∨ (e = .returned (.bool true) ∧ w' = w ∧ ∀ j, j < m → (f j).size ≤ 1048576) := by
  by_cases h0 : 1048576 < m
  · go_enter Trym.func8, Trym.ntmps8
    go_wp2_with fail
    go_ret
    exact .inl ⟨rfl, rfl⟩
  · go_enter Trym.func8, Trym.ntmps8
    go_wp2_with fail
    go_loop [5, 6] (fun zv iv => ∃ (i z : Nat), zv = .int .i64 z ∧ iv = .int .i64 i ∧ i ≤ m ∧ z ≤ 1048576 ∧ Hid (∀ j, j < i → (f j).size ≤ 1048576)) (fun _ iv => m - (intOf iv).toNat)
    case atStart => exact ⟨0, m, by go_num, rfl, by omega, by omega, fun j hj => by omega⟩
    case round =>
      obtain ⟨i, z, rfl, rfl, hi, hz, hg⟩ := hrel
      by_cases hlt : i < m
      · obtain ⟨b, off, hx, hb, hc⟩ := h.out (by omega)
        subst hx
        have hci := hc i hlt
        have hsz := Hs.out i hlt
        obtain ⟨y, hy⟩ : ∃ y, y = f i := ⟨_, rfl⟩
        rw [← hy] at hci hsz
        have HY : Hid (y = f i) := hy
        clear hy hc
        by_cases h1 : 1048576 < y.size
        · go_wp2_with fail
          go_ret
          exact .inl ⟨rfl, rfl⟩
        · by_cases h2 : 1048576 < z + y.size
          · go_wp2_with fail
            go_ret
            exact .inl ⟨rfl, rfl⟩
          · have hg1 : Hid (∀ j, j < i + 1 → (f j).size ≤ 1048576) := by
              intro j hj
              by_cases e : j = i
              · rw [e, ← HY.out]; omega
              · exact hg.out j (by omega)
            go_wp2_with fail
            go_round
            case rel => exact ⟨i + 1, z + y.size, by go_num, by go_num, by omega, by omega, hg1⟩
            case measure => simp [intOf]; omega
      · have hfin : ∀ j, j < m → (f j).size ≤ 1048576 := fun j hj => hg.out j (by omega)
        by_cases h1 : 1048576 < n
        · go_wp2_with fail
          go_ret
          exact .inl ⟨rfl, rfl⟩
        · by_cases h2 : 1048576 < z + n
          · go_wp2_with fail
            go_ret
            exact .inl ⟨rfl, rfl⟩
          · go_wp2_with fail
            go_ret
            exact .inr ⟨rfl, rfl, hfin⟩

set_option maxHeartbeats 1000000 in
theorem bytes23 (na pa : Option Addr) (m mc n nc : Nat) (f : Nat → ByteArray)  (w : World) (hm : m ≤ 9223372036854775807) (hn : n ≤ 9223372036854775807) (h : Hid (NmsIn w na m f)) (Hs : Hid (∀ j, j < m → (f j).size ≤ 9223372036854775807)) :
    Calls Trym.prog 23 #[.slice na m mc, .slice pa n nc] w fun e w' => (e = .returned (.bool false) ∧ w' = w) ∨ (e = .returned (.bool true) ∧ w' = w ∧ ∀ j, j < m → (f j).size ≤ 1048576) := by
  by_cases h0 : 1048576 < m
  · go_enter Trym.func23, Trym.ntmps23
    go_wp2_with fail
    go_ret
    exact .inl ⟨rfl, rfl⟩
  · go_enter Trym.func23, Trym.ntmps23
    go_wp2_with fail
    go_loop [5, 6] (fun zv iv => ∃ (i z : Nat), zv = .int .i64 z ∧ iv = .int .i64 i ∧ i ≤ m ∧ z ≤ 1048576 ∧ Hid (∀ j, j < i → (f j).size ≤ 1048576)) (fun _ iv => m - (intOf iv).toNat)
    case atStart => exact ⟨0, m, by go_num, rfl, by omega, by omega, fun j hj => by omega⟩
    case round =>
      obtain ⟨i, z, rfl, rfl, hi, hz, hg⟩ := hrel
      by_cases hlt : i < m
      · obtain ⟨b, off, hx, hb, hc⟩ := h.out (by omega)
        subst hx
        have hci := hc i hlt
        have hsz := Hs.out i hlt
        obtain ⟨y, hy⟩ : ∃ y, y = f i := ⟨_, rfl⟩
        rw [← hy] at hci hsz
        have HY : Hid (y = f i) := hy
        clear hy hc
        by_cases h1 : 1048576 < y.size
        · go_wp2_with fail
          go_ret
          exact .inl ⟨rfl, rfl⟩
        · by_cases h2 : 1048576 < z + y.size
          · go_wp2_with fail
            go_ret
            exact .inl ⟨rfl, rfl⟩
          · have hg1 : Hid (∀ j, j < i + 1 → (f j).size ≤ 1048576) := by
              intro j hj
              by_cases e : j = i
              · rw [e, ← HY.out]; omega
              · exact hg.out j (by omega)
            go_wp2_with fail
            go_round
            case rel => exact ⟨i + 1, z + y.size, by go_num, by go_num, by omega, by omega, hg1⟩
            case measure => simp [intOf]; omega
      · have hfin : ∀ j, j < m → (f j).size ≤ 1048576 := fun j hj => hg.out j (by omega)
        by_cases h1 : 1048576 < n
        · go_wp2_with fail
          go_ret
          exact .inl ⟨rfl, rfl⟩
        · by_cases h2 : 1048576 < z + n
          · go_wp2_with fail
            go_ret
            exact .inl ⟨rfl, rfl⟩
          · go_wp2_with fail
            go_ret
            exact .inr ⟨rfl, rfl, hfin⟩

set_option maxHeartbeats 1000000 in
theorem bytes21 (na pa : Option Addr) (m mc n nc : Nat) (f : Nat → ByteArray) (x : Int) (w : World) (hm : m ≤ 9223372036854775807) (hn : n ≤ 9223372036854775807) (h : Hid (NmsIn w na m f)) (Hs : Hid (∀ j, j < m → (f j).size ≤ 9223372036854775807)) :
    Calls Trym.prog 21 #[.slice na m mc, .slice pa n nc, .int .u32 x] w fun e w' => (e = .returned (.bool false) ∧ w' = w) ∨ (e = .returned (.bool true) ∧ w' = w ∧ ∀ j, j < m → (f j).size ≤ 1048576) := by
  by_cases h0 : 1048576 < m
  · go_enter Trym.func21, Trym.ntmps21
    go_wp2_with fail
    go_ret
    exact .inl ⟨rfl, rfl⟩
  · go_enter Trym.func21, Trym.ntmps21
    go_wp2_with fail
    go_loop [7, 8] (fun zv iv => ∃ (i z : Nat), zv = .int .i64 z ∧ iv = .int .i64 i ∧ i ≤ m ∧ z ≤ 1048576 ∧ Hid (∀ j, j < i → (f j).size ≤ 1048576)) (fun _ iv => m - (intOf iv).toNat)
    case atStart => exact ⟨0, m, by go_num, rfl, by omega, by omega, fun j hj => by omega⟩
    case round =>
      obtain ⟨i, z, rfl, rfl, hi, hz, hg⟩ := hrel
      by_cases hlt : i < m
      · obtain ⟨b, off, hx, hb, hc⟩ := h.out (by omega)
        subst hx
        have hci := hc i hlt
        have hsz := Hs.out i hlt
        obtain ⟨y, hy⟩ : ∃ y, y = f i := ⟨_, rfl⟩
        rw [← hy] at hci hsz
        have HY : Hid (y = f i) := hy
        clear hy hc
        by_cases h1 : 1048576 < y.size
        · go_wp2_with fail
          go_ret
          exact .inl ⟨rfl, rfl⟩
        · by_cases h2 : 1048576 < z + y.size
          · go_wp2_with fail
            go_ret
            exact .inl ⟨rfl, rfl⟩
          · have hg1 : Hid (∀ j, j < i + 1 → (f j).size ≤ 1048576) := by
              intro j hj
              by_cases e : j = i
              · rw [e, ← HY.out]; omega
              · exact hg.out j (by omega)
            go_wp2_with fail
            go_round
            case rel => exact ⟨i + 1, z + y.size, by go_num, by go_num, by omega, by omega, hg1⟩
            case measure => simp [intOf]; omega
      · have hfin : ∀ j, j < m → (f j).size ≤ 1048576 := fun j hj => hg.out j (by omega)
        by_cases h1 : 1048576 < n
        · go_wp2_with fail
          go_ret
          exact .inl ⟨rfl, rfl⟩
        · by_cases h2 : 1048576 < z + n
          · go_wp2_with fail
            go_ret
            exact .inl ⟨rfl, rfl⟩
          · go_wp2_with fail
            go_ret
            exact .inr ⟨rfl, rfl, hfin⟩
end Go.Proofs.Qxb6000402aMods
