import Derived.Test.Qxb6000402aModsHelp
import Derived.Test.Qxb6000402aModsTies
namespace Go.Proofs.Qxb6000402aMods
open Go.RowKit Mem Deal
set_option linter.unusedVariables false

theorem copyNms_any (a : Option Addr) (n c : Nat) (f : Nat → ByteArray) (w : World) (hn : n ≤ 65536) (h : Hid (NmsIn w a n f)) (h0 : Hid (a = none → n = 0 ∧ c = 0)) :
    Calls Trym.prog 11 #[.slice a n c] w fun e w' => ∃ a' c', e = .returned (.slice a' n c') ∧ Hid (NmsIn w' a' n f) ∧ Hid (a' = none → n = 0 ∧ c' = 0) ∧ Keeps [] w w' := by
  cases a with
  | none =>
    obtain ⟨rfl, rfl⟩ := h0.out rfl
    exact (copyNms_nil w).mono fun e w' ⟨he, hw⟩ => ⟨none, 0, he, (fun h => absurd h (by omega)), (fun _ => ⟨rfl, rfl⟩), by subst hw; exact Keeps.refl _ _⟩
  | some x => exact (copyNms_some x n c f w hn h).mono fun e w' ⟨he, h1, h2⟩ => ⟨_, _, he, h1, (fun h => by cases h), h2⟩
theorem copyPts_any (a : Option Addr) (n c : Nat) (pts : List Int) (w : World) (hn : n ≤ 131072) (h : Hid (PtsIn w a n pts)) (h0 : Hid (a = none → n = 0 ∧ c = 0)) :
    Calls Trym.prog 12 #[.slice a n c] w fun e w' => ∃ a', e = .returned (.slice a' n n) ∧ Hid (PtsCopy w' a' w.heap.size n pts) ∧ Hid (a' = none → n = 0 ∧ n = 0) ∧ Keeps [] w w' := by
  cases a with
  | none =>
    obtain ⟨rfl, rfl⟩ := h0.out rfl
    exact (copyPts_nil w).mono fun e w' ⟨he, hw⟩ => ⟨none, he, (fun h => absurd h (by omega)), (fun _ => ⟨rfl, rfl⟩), by subst hw; exact Keeps.refl _ _⟩
  | some x => exact (copyPts_some x n c pts w hn h).mono fun e w' ⟨he, h1, h2⟩ => ⟨_, he, (fun _ => ⟨rfl, h1⟩), (fun h => by cases h), h2⟩

theorem PtsCopy.isIn {w : World} {a : Option Addr} {P n : Nat} {pts : List Int} (h : PtsCopy w a P n pts) : PtsIn w a n pts := by
  intro h0
  obtain ⟨h1, h2⟩ := h h0
  exact ⟨P, 0, h1, Row.lt h2, fun j hj => by rw [Nat.zero_add]; exact h2.cell hj⟩
theorem PtsCopy.kept {S : List Nat} {w w' : World} {a : Option Addr} {P n : Nat} {pts : List Int} (h : PtsCopy w a P n pts) (k : Keeps S w w') (hP : 0 < n → P ∉ S) : PtsCopy w' a P n pts :=
  fun h0 => ⟨(h h0).1, Row.kept (h h0).2 k (hP h0)⟩

theorem NmsIn.kept2 {S : List Nat} {w w' : World} {a : Option Addr} {n : Nat} {f : Nat → ByteArray} (h : NmsIn w a n f) (k : Keeps S w w') (hS : ∀ b ∈ S, w.heap.size ≤ b) : NmsIn w' a n f := by
  intro h0
  obtain ⟨b, off, h1, h2, h3⟩ := h h0
  exact ⟨b, off, h1, Nat.lt_of_lt_of_le h2 k.size, fun j hj => (World.cell?_of_block (a := ⟨b, off + j, none⟩) (k.block b h2 (fun e => by have := hS b e; omega))).trans (h3 j hj)⟩

/-- newCircle, whatever the points lie in. -/
theorem circ (P n m mc : Nat) (na pa : Option Addr) (pts : List Int) (w : World) (hn : n ≤ 131072) (hm : m ≤ 65536) (Hl : Hid (pts.length = n)) (Hg : Hid (∀ p ∈ pts, Deal.Good p))
    (Hm : Hid (∀ p ∈ pts, own p < m)) (Hp : Hid (PtsCopy w pa P n pts)) :
    Calls Trym.prog 13 #[.slice na m mc, .slice pa n n] w fun e w' => ∃ W O, e = .returned (circleV W O n (.slice na m mc) (dis m (owners pts))) ∧ Laid w w' W O P n pts := by
  by_cases h0 : 0 < n
  · have hl := Row.lt (Hp.out h0).2
    exact zzCircle_any P n m mc na pa pts w hn hm Hl Hg Hm Hp.out (by omega) (by omega)
  · refine (zzCircle_any (w.heap.size + 2) n m mc na pa pts w hn hm Hl Hg Hm (fun h => absurd h h0) (by omega) (by omega)).mono ?_
    rintro e w' ⟨W, O, he, hL⟩
    exact ⟨W, O, he, hL.wd, hL.o, ⟨hL.keep.os, hL.keep.tape, hL.keep.output, hL.keep.size, fun k hk _ => hL.keep.block k hk (by simp; omega)⟩, hL.wl, hL.ol⟩

theorem below_keeps {H : Nat} {S : List Nat} {w w1 w2 : World} (h : Below H w w1) (k : Keeps S w1 w2) (hH : H ≤ w1.heap.size) (hS : ∀ b ∈ S, H ≤ b) : Below H w w2 :=
  h.trans ⟨k.os, k.tape, k.output, k.size, fun i hi => k.block i (by omega) (fun e => by have := hS i e; omega)⟩

/-- A fresh row of points, written backwards. -/
def RevTo (pts : List Int) (n i : Nat) (g : Nat → Int) : Prop := ∀ j, j < i → g j = pts.reverse.getD j 0

/-- What is there behind both circles. -/
structure Both (w wr : World) (B1 B2 W1 O1 W2 O2 n : Nat) (nv1 nv2 : Value) (d1_ d2_ : Nat) (pts : List Int) : Prop where
  b1 : Row wr B1 30 [.slice (some ⟨W1, 0, none⟩) n n, .slice none 0 0, .slice none 0 0, .slice (some ⟨O1, 0, none⟩) n n, nv1, .int .i64 d1_]
  b2 : Row wr B2 30 [.slice (some ⟨W2, 0, none⟩) n n, .slice none 0 0, .slice none 0 0, .slice (some ⟨O2, 0, none⟩) n n, nv2, .int .i64 d2_]
  w1 : FRow wr W1 36 .u32 n (fun i => pos ((l3 pts).getD i 0))
  o1 : FRow wr O1 39 .u16 n (fun i => own ((l3 pts).getD i 0))
  w2 : FRow wr W2 36 .u32 n (fun i => pos ((l3 pts.reverse).getD i 0))
  o2 : FRow wr O2 39 .u16 n (fun i => own ((l3 pts.reverse).getD i 0))
  below : Below w.heap.size w wr

theorem both_of {w wr w4 w6 w7 : World} {P1 P2 W1 O1 W2 O2 n : Nat} {nv1 nv2 : Value} {a1 a2 : Nat} {pts : List Int} (hb : Below w.heap.size w wr) (hP1 : w.heap.size ≤ P1) (hP2 : w.heap.size ≤ P2) (hP2l : P2 < wr.heap.size)
    (hL1 : Laid wr w4 W1 O1 P1 n pts) (hk6 : Keeps [] (w4.alloc (.cells #[.slice (some ⟨W1, 0, none⟩) n n, .slice none 0 0, .slice none 0 0, .slice (some ⟨O1, 0, none⟩) n n, nv1, .int .i64 a1] 30)) w6)
    (hL2 : Laid w6 w7 W2 O2 P2 n pts.reverse) :
    Both w (w7.alloc (.cells #[.slice (some ⟨W2, 0, none⟩) n n, .slice none 0 0, .slice none 0 0, .slice (some ⟨O2, 0, none⟩) n n, nv2, .int .i64 a2] 30)) w4.heap.size w7.heap.size W1 O1 W2 O2 n nv1 nv2 a1 a2 pts := by
  have s0 := hb.size
  have s1 := hL1.keep.size
  have l1 := Row.lt hL1.wd
  have l2 := Row.lt hL1.o
  have g1 := hL1.wl
  have g2 := hL1.ol
  have s6 := hk6.size
  have e5 : (w4.alloc (.cells #[.slice (some ⟨W1, 0, none⟩) n n, .slice none 0 0, .slice none 0 0, .slice (some ⟨O1, 0, none⟩) n n, nv1, .int .i64 a1] 30)).heap.size = w4.heap.size + 1 := by simp
  refine ⟨?_, row_new w7 _ 30, ?_, ?_, Row.alloc hL2.wd _, Row.alloc hL2.o _, ?_⟩
  · exact Row.alloc (((row_new w4 _ 30).kept hk6 (by simp)).kept hL2.keep (by simp; omega)) _
  · exact Row.alloc (((Row.alloc hL1.wd _).kept hk6 (by simp)).kept hL2.keep (by simp; omega)) _
  · exact Row.alloc (((Row.alloc hL1.o _).kept hk6 (by simp)).kept hL2.keep (by simp; omega)) _
  · have b4 := below_keeps hb hL1.keep s0 (by simpa using hP1)
    have b5 := b4.alloc (by omega) (.cells #[.slice (some ⟨W1, 0, none⟩) n n, .slice none 0 0, .slice none 0 0, .slice (some ⟨O1, 0, none⟩) n n, nv1, .int .i64 a1] 30)
    have b6 := below_keeps b5 hk6 (by omega) (by simp)
    have b7 := below_keeps b6 hL2.keep (by omega) (by simpa using hP2)
    exact b7.alloc (by have := hL2.keep.size; omega) _
theorem Both.drew {w wr : World} {B1 B2 W1 O1 W2 O2 n a1 a2 : Nat} {nv1 nv2 : Value} {pts : List Int} (h : Both w wr B1 B2 W1 O1 W2 O2 n nv1 nv2 a1 a2 pts) : Both w wr.drew B1 B2 W1 O1 W2 O2 n nv1 nv2 a1 a2 pts :=
  ⟨h.b1, h.b2, h.w1, h.o1, h.w2, h.o2, h.below.drew⟩

theorem Both.drewN {w wr : World} {B1 B2 W1 O1 W2 O2 n a1 a2 : Nat} {nv1 nv2 : Value} {pts : List Int} (h : Both w wr B1 B2 W1 O1 W2 O2 n nv1 nv2 a1 a2 pts) (k : Nat) : Both w (wr.drewN k) B1 B2 W1 O1 W2 O2 n nv1 nv2 a1 a2 pts :=
  ⟨h.b1, h.b2, h.w1, h.o1, h.w2, h.o2, ⟨h.below.os, h.below.tape, h.below.output, h.below.size, h.below.block⟩⟩
/-- The run [a, b) is all that stands on its position. -/
theorem run_all {pts : List Int} (hg : ∀ p ∈ pts, Deal.Good p) {a b n : Nat} (hl : pts.length = n) (hab : a < b) (hb : b ≤ n) (h1 : Hid (∀ t, t < a → a < n → pos ((l3 pts).getD t 0) < pos ((l3 pts).getD a 0)))
    (h2 : Hid (∀ t, a ≤ t → t < b → pos ((l3 pts).getD t 0) = pos ((l3 pts).getD a 0))) (h3 : b < n → pos ((l3 pts).getD b 0) ≠ pos ((l3 pts).getD a 0)) :
    ∀ i, i < pts.length → (pos ((l3 pts).getD i 0) = pos ((l3 pts).getD a 0) ↔ a ≤ i ∧ i < b) := by
  intro i hi
  constructor
  · intro e
    refine ⟨?_, ?_⟩
    · by_cases hlt : i < a
      · have := h1.out i hlt (by omega); omega
      · omega
    · by_cases hge : b ≤ i
      · have e1 := l3_le hg hge hi
        have e2 := l3_le hg (show a ≤ b by omega) (show b < pts.length by omega)
        have e3 := h3 (by omega)
        omega
      · omega
  · rintro ⟨e1, e2⟩
    exact h2.out i e1 e2
theorem run_next {pts : List Int} (hg : ∀ p ∈ pts, Deal.Good p) {a b n : Nat} (hl : pts.length = n) (hab : a < b) (hb : b ≤ n)
    (h2 : Hid (∀ t, a ≤ t → t < b → pos ((l3 pts).getD t 0) = pos ((l3 pts).getD a 0))) (h3 : b < n → pos ((l3 pts).getD b 0) ≠ pos ((l3 pts).getD a 0)) :
    Hid (∀ t, t < b → b < n → pos ((l3 pts).getD t 0) < pos ((l3 pts).getD b 0)) := by
  intro t ht hbn
  have e1 := l3_le hg (show t ≤ b - 1 by omega) (show b - 1 < pts.length by omega)
  have e2 := h2.out (b - 1) (by omega) (by omega)
  have e3 := h3 hbn
  have e4 := l3_le hg (show a ≤ b by omega) (show b < pts.length by omega)
  omega

set_option maxRecDepth 100000 in
set_option maxHeartbeats 4000000 in
theorem rev_walk (na pa : Option Addr) (m mc n nc : Nat) (f : Nat → ByteArray) (pts : List Int) (w : World) (hm : m ≤ 9223372036854775807) (hn : n ≤ 9223372036854775807) (Hn : Hid (NmsIn w na m f)) (Hp : Hid (PtsIn w pa n pts))
    (Hn0 : Hid (na = none → m = 0 ∧ mc = 0)) (Hp0 : Hid (pa = none → n = 0 ∧ nc = 0)) (Hs : Hid (∀ j, j < m → (f j).size ≤ 9223372036854775807)) (Hl : Hid (pts.length = n)) (Hw : Hid (∀ p ∈ pts, 0 ≤ p ∧ p < 18446744073709551616)) :
    Calls Trym.prog 5 #[.slice na m mc, .slice pa n nc] w fun e w' => e = .returned (.bool true) ∧ Below w.heap.size w w' := by
  go_enter Trym.func5, Trym.ntmps5
  go_wp2_with fail
  refine (bytes20 na pa m mc n nc f w hm hn Hn Hs).mono ?_
  rintro e w' (⟨rfl, rfl⟩ | ⟨rfl, rfl, hs⟩)
  · go_wp2_with fail
    go_ret
    exact ⟨rfl, Below.refl _ _⟩
  have Hs1 : Hid (∀ j, j < m → (f j).size ≤ 1048576) := hs
  clear hs Hs
  go_wp2_with fail
  refine (over_any na pa m mc n nc f _ hm hn Hn Hs1).mono ?_
  rintro e w' (⟨rfl, rfl⟩ | ⟨rfl, rfl, hm1, hn1⟩)
  · go_wp2_with fail
    go_ret
    exact ⟨rfl, Below.refl _ _⟩
  go_wp2_with fail
  refine (nodes_any na pa m mc n nc pts _ hm1 hn1 Hp Hl Hw).mono ?_
  rintro e w' (⟨rfl, rfl⟩ | ⟨rfl, rfl, ho⟩)
  · go_wp2_with fail
    go_ret
    exact ⟨rfl, Below.refl _ _⟩
  have Hg : Hid (∀ p ∈ pts, Deal.Good p) := fun p hp => ⟨(Hw.out p hp).1, (Hw.out p hp).2, by have := ho p hp; omega⟩
  have Hm : Hid (∀ p ∈ pts, own p < m) := fun p hp => by have := ho p hp; unfold own; omega
  clear ho
  go_wp2_with fail
  refine (copyNms_any na m mc f _ hm1 Hn Hn0).mono ?_
  rintro e w1 ⟨na1, mc1, rfl, Hn1, Hn01, hk1⟩
  have hb1 := below_keeps (Below.refl _ _) hk1 (Nat.le_refl _) (by simp)
  have hs1 := hk1.size
  go_wp2_with fail
  refine (copyPts_any pa n nc pts _ hn1 (Hp.out.kept hk1) Hp0).mono ?_
  rintro e w2 ⟨pa1, rfl, Hp1, Hp01, hk2⟩
  have hb2 := below_keeps hb1 hk2 hs1 (by simp)
  have hs2 := hk2.size
  obtain ⟨i0, hi0, hz0, hz1, hz2⟩ := info_parts info37
  go_wp2_with (at_make; refine wpList_make_full _ rfl _ _ 23 rfl w2.heap.size 37 i0 (.int .u64 0) 1 Trym.underlying23 hi0 hz0 hz1 _ _ _ _ n rfl rfl rfl rfl (by rw [hz2]; omega) (by unfold maxLen; omega) (Nat.le_refl _) ?_; intro w3 hown hgrow; have hrow := made_row hown; have hk3 := keeps_grown hgrow; clear hown hgrow)
  have hb3 := below_keeps hb2 hk3 (by omega) (by simp)
  go_loopw [7] (fun iv wr => ∃ (i : Nat) (g : Nat → Int), iv = .int .i64 i ∧ i ≤ n ∧ FRow wr w2.heap.size 37 .u64 n g ∧ Hid (∀ j, j < i → g j = pts.reverse.getD j 0) ∧ Keeps [] w2 wr) (fun iv _ => n - (intOf iv).toNat)
  case atStart => exact ⟨0, _, rfl, by omega, hrow, (fun j hj => by omega), hk3⟩
  case round =>
    clear hrow hk3 hb3
    obtain ⟨i, g, rfl, hi, hrow, hg, hk⟩ := hrel
    by_cases hlt : i < n
    · obtain ⟨hpa, hprow⟩ := Hp1.out (by omega)
      subst hpa
      have hpr := Row.kept hprow hk (by simp)
      have hci := FRow.cell hpr (j := n - 1 - i) (by omega)
      obtain ⟨y, hy⟩ : ∃ y, y = pts.getD (n - 1 - i) 0 := ⟨_, rfl⟩
      rw [← hy] at hci
      have HY : Hid (y = pts.reverse.getD i 0) := by rw [hy, rev_get pts i (by rw [Hl.out]; exact hlt), Hl.out]; rfl
      clear hy hpr hprow
      have hco := hrow.cell hlt
      have hfo := Row.frozen hrow i
      generalize hz : g i = z at hco
      clear hz
      have hrow1 := hrow.set i y
      have hk1 := hk.set (p := ⟨w2.heap.size, i, none⟩) (.inr (Nat.le_refl _)) (.int .u64 y)
      have hg1 : Hid (∀ j, j < i + 1 → upd g i y j = pts.reverse.getD j 0) := by
        intro j hj
        simp only [upd]
        by_cases e : j = i
        · rw [if_pos e, e]; exact HY.out
        · rw [if_neg e]; exact hg.out j (by omega)
      have hidx : (0 : Int) ≤ (n : Int) - 1 - (i : Int) := by omega
      go_wp2_with fail
      go_roundw
      case rel => exact ⟨i + 1, _, by go_num, by omega, hrow1, hg1, hk1⟩
      case measure => simp [intOf]; omega
    · have e : i = n := by omega
      subst e
      have hrev := hrow.congr hg.out
      clear hrow hg hlt hi
      have hb3 := below_keeps hb2 hk (by omega) (by simp)
      have hP2l : w2.heap.size < wr.heap.size := Row.lt hrev
      have Hc1 : Hid (PtsCopy wr pa1 w1.heap.size i pts) := Hp1.out.kept hk (by simp)
      go_wp2_with fail
      refine (circ w1.heap.size i m mc1 na1 pa1 pts wr hn1 hm1 Hl Hg Hm Hc1).mono ?_
      rintro e w4 ⟨W1, O1, rfl, hL1⟩
      obtain ⟨q1, hq1⟩ : ∃ q1, q1 = dis m (owners pts) := ⟨_, rfl⟩
      rw [← hq1]
      have Hq1 : Hid (q1 = dis m (owners pts)) := hq1
      clear hq1
      unfold circleV
      have hn5 := ((Hn1.out.kept2 (S := [w1.heap.size]) (((hk2.trans hk).more (by simp)).trans hL1.keep) (by simp))).kept2 ((Keeps.refl [] w4).alloc (.cells #[.slice (some ⟨W1, 0, none⟩) i i, .slice none 0 0, .slice none 0 0, .slice (some ⟨O1, 0, none⟩) i i, .slice na1 m mc1, .int .i64 q1] 30)) (by simp)
      go_wp2_with fail
      refine (copyNms_any na1 m mc1 f _ hm1 hn5 Hn01).mono ?_
      rintro e w6 ⟨na2, mc2, rfl, Hn2, Hn02, hk6⟩
      have Hc2 : Hid (PtsCopy w6 (some ⟨w2.heap.size, 0, none⟩) w2.heap.size i pts.reverse) := fun h0 => ⟨rfl, Row.kept (Row.alloc (Row.kept hrev hL1.keep (by have := Row.lt (Hp1.out h0).2; simp; omega)) _) hk6 (by simp)⟩
      go_wp2_with fail
      refine (circ w2.heap.size i m mc2 na2 _ pts.reverse w6 hn1 hm1 (by show _ = _; rw [List.length_reverse]; exact Hl.out) (good_rev Hg.out) (fun p hp => Hm.out p (List.mem_reverse.1 hp)) Hc2).mono ?_
      rintro e w7 ⟨W2, O2, rfl, hL2⟩
      obtain ⟨q2, hq2⟩ : ∃ q2, q2 = dis m (owners pts.reverse) := ⟨_, rfl⟩
      rw [← hq2]
      have Hq2 : Hid (q1 = q2) := by rw [hq2, Hq1.out]; exact (dis_rev Hg.out m).symm
      clear hq2
      unfold circleV
      have hB := both_of (nv1 := .slice na1 m mc1) (nv2 := .slice na2 m mc2) (a1 := q1) (a2 := q2) hb3 hs1 (by omega) hP2l hL1 hk6 hL2
      clear hL1 hL2 hk6 Hc1 Hc2 hrev hn5 hk
      go_wp2_with fail
      generalize w7.alloc (.cells #[.slice (some ⟨W2, 0, none⟩) i i, .slice none 0 0, .slice none 0 0, .slice (some ⟨O2, 0, none⟩) i i, .slice na2 m mc2, .int .i64 q2] 30) = w8 at hB ⊢
      generalize w4.heap.size = B1 at hB ⊢
      generalize w7.heap.size = B2 at hB ⊢
      refine (wide_any _ _ _ _ _ _ _ _ hB.b1).mono ?_
      rintro e wx ⟨rfl, hwx⟩
      subst hwx
      go_wp2_with fail
      refine (owners_any _ _ _ _ _ _ _ _ hB.b1).mono ?_
      rintro e wx ⟨rfl, hwx⟩
      subst hwx
      go_wp2_with fail
      refine (wide_any _ _ _ _ _ _ _ _ hB.b2).mono ?_
      rintro e wx ⟨rfl, hwx⟩
      subst hwx
      go_wp2_with fail
      refine (owners_any _ _ _ _ _ _ _ _ hB.b2).mono ?_
      rintro e wx ⟨rfl, hwx⟩
      subst hwx
      go_wp2_with fail
      go_loopw [14] (fun iv wr => ∃ j : Nat, iv = .int .i64 j ∧ j ≤ i ∧ Both w' wr B1 B2 W1 O1 W2 O2 i (.slice na1 m mc1) (.slice na2 m mc2) q1 q2 pts) (fun iv _ => i - (intOf iv).toNat)
      case atStart => exact ⟨0, rfl, by omega, hB⟩
      case round =>
        clear hB
        obtain ⟨j, rfl, hj, hB⟩ := hrel
        by_cases hlt : j < i
        · have hc1 := hB.w1.cell hlt
          have hc2 := hB.w2.cell hlt
          rw [pos_rev_at Hg.out (by rw [Hl.out]; exact hlt)] at hc2
          generalize pos ((l3 pts).getD j 0) = x at hc1 hc2
          have hli : (j : Int) < (i : Int) := by omega
          go_wp2_with fail
          go_region
          all_goals go_wp2_with fail
          all_goals go_roundw
          case rel => exact ⟨j + 1, by go_num, by omega, hB.drew⟩
          case measure => simp [intOf]; omega
        · go_wp2_with fail
          clear hlt hj
          go_loopw [15] (fun av wr => ∃ a : Nat, av = .int .i64 a ∧ a ≤ i ∧ Hid (∀ t, t < a → a < i → pos ((l3 pts).getD t 0) < pos ((l3 pts).getD a 0)) ∧ Both w' wr B1 B2 W1 O1 W2 O2 i (.slice na1 m mc1) (.slice na2 m mc2) q1 q2 pts) (fun av _ => i - (intOf av).toNat)
          case atStart => exact ⟨0, rfl, by omega, (fun t ht => by omega), hB⟩
          case round =>
            clear hB
            obtain ⟨a, rfl, ha, hlo, hB⟩ := hrel
            by_cases hlt : a < i
            · go_wp2_with fail
              go_loopw [16] (fun bv wr => ∃ b : Nat, bv = .int .i64 b ∧ a ≤ b ∧ b ≤ i ∧ Hid (∀ t, a ≤ t → t < b → pos ((l3 pts).getD t 0) = pos ((l3 pts).getD a 0)) ∧ Both w' wr B1 B2 W1 O1 W2 O2 i (.slice na1 m mc1) (.slice na2 m mc2) q1 q2 pts) (fun bv _ => i - (intOf bv).toNat)
              case atStart => exact ⟨a, rfl, by omega, by omega, (fun t h1 h2 => by omega), hB⟩
              case round =>
                clear hB
                obtain ⟨b, rfl, hab, hbi, hrun, hB⟩ := hrel
                by_cases hb : b < i
                · have hca := hB.w1.cell hlt
                  have hcb := hB.w1.cell hb
                  have hli : (b : Int) < (i : Int) := by omega
                  have hla : (a : Int) < (i : Int) := by omega
                  by_cases heq : pos ((l3 pts).getD b 0) = pos ((l3 pts).getD a 0)
                  · rw [heq] at hcb
                    have hrun1 : Hid (∀ t, a ≤ t → t < b + 1 → pos ((l3 pts).getD t 0) = pos ((l3 pts).getD a 0)) := by
                      intro t h1 h2
                      by_cases e : t = b
                      · rw [e]; exact heq
                      · exact hrun.out t h1 (by omega)
                    clear heq
                    generalize pos ((l3 pts).getD a 0) = x at hca hcb hrun1
                    go_wp2_with fail
                    go_quiet (fail)
                    go_wp2_with fail
                    go_roundw
                    case rel => exact ⟨b + 1, by go_num, by omega, by omega, hrun1, hB.drewN _⟩
                    case measure => simp [intOf]; omega
                  · have hab1 : a < b := by
                      by_cases e : a = b
                      · subst e; exact absurd rfl heq
                      · omega
                    have hend : b < i → pos ((l3 pts).getD b 0) ≠ pos ((l3 pts).getD a 0) := fun _ => heq
                    generalize hx : pos ((l3 pts).getD a 0) = x at hca heq
                    generalize hy : pos ((l3 pts).getD b 0) = y at hcb heq
                    have hne : (y == x) = false := by simp [heq]
                    clear heq hx hy
                    go_wp2_with fail
                    go_quiet (fail)
                    go_wp2_with fail
                    have hall := run_all Hg.out Hl.out hab1 hbi hlo hrun hend
                    have hnext := run_next Hg.out Hl.out hab1 hbi hrun hend
                    clear hend hrun hlo
                    go_loopw [17] (fun kv wr => ∃ k : Nat, kv = .int .i64 k ∧ k ≤ b - a ∧ Both w' wr B1 B2 W1 O1 W2 O2 i (.slice na1 m mc1) (.slice na2 m mc2) q1 q2 pts) (fun kv _ => b - a - (intOf kv).toNat)
                    case atStart => exact ⟨0, rfl, by omega, hB.drewN _⟩
                    case round =>
                      clear hB
                      obtain ⟨k, rfl, hk, hB⟩ := hrel
                      by_cases hkl : k < b - a
                      · have htie := tie_rev Hg.out _ (show a ≤ b by omega) (by rw [Hl.out]; exact hbi) hkl hall
                        have hc2 := hB.o2.cell (j := a + k) (by omega)
                        have hc1 := hB.o1.cell (j := b - 1 - k) (by omega)
                        rw [htie] at hc2
                        generalize own ((l3 pts).getD (b - 1 - k) 0) = y at hc1 hc2
                        clear htie hall
                        have hli : (a : Int) + (k : Int) < (i : Int) := by omega
                        have hl2 : (0 : Int) ≤ (b : Int) - 1 - (k : Int) := by omega
                        have hl3 : (b : Int) - 1 - (k : Int) < (i : Int) := by omega
                        go_wp2_with fail
                        go_region
                        all_goals go_wp2_with fail
                        all_goals go_roundw
                        case rel => exact ⟨k + 1, by go_num, by omega, hB.drew⟩
                        case measure => simp [intOf]; omega
                      · go_wp2_with fail
                        go_roundw
                        case rel => exact ⟨b, rfl, by omega, hnext, hB⟩
                        case measure => simp [intOf]; omega
                · have hab1 : a < b := by omega
                  have hend : b < i → pos ((l3 pts).getD b 0) ≠ pos ((l3 pts).getD a 0) := fun h => absurd h hb
                  have hd : decide ((b : Int) < (i : Int)) = false := decide_eq_false (by omega)
                  have hd2 : decide (b < i) = false := decide_eq_false hb
                  go_wp2_with fail
                  go_quiet (fail)
                  go_wp2_with fail
                  have hall := run_all Hg.out Hl.out hab1 hbi hlo hrun hend
                  have hnext := run_next Hg.out Hl.out hab1 hbi hrun hend
                  clear hend hrun hlo
                  go_loopw [17] (fun kv wr => ∃ k : Nat, kv = .int .i64 k ∧ k ≤ b - a ∧ Both w' wr B1 B2 W1 O1 W2 O2 i (.slice na1 m mc1) (.slice na2 m mc2) q1 q2 pts) (fun kv _ => b - a - (intOf kv).toNat)
                  case atStart => exact ⟨0, rfl, by omega, hB.drewN _⟩
                  case round =>
                    clear hB
                    obtain ⟨k, rfl, hk, hB⟩ := hrel
                    by_cases hkl : k < b - a
                    · have htie := tie_rev Hg.out _ (show a ≤ b by omega) (by rw [Hl.out]; exact hbi) hkl hall
                      have hc2 := hB.o2.cell (j := a + k) (by omega)
                      have hc1 := hB.o1.cell (j := b - 1 - k) (by omega)
                      rw [htie] at hc2
                      generalize own ((l3 pts).getD (b - 1 - k) 0) = y at hc1 hc2
                      clear htie hall
                      have hli : (a : Int) + (k : Int) < (i : Int) := by omega
                      have hl2 : (0 : Int) ≤ (b : Int) - 1 - (k : Int) := by omega
                      have hl3 : (b : Int) - 1 - (k : Int) < (i : Int) := by omega
                      go_wp2_with fail
                      go_region
                      all_goals go_wp2_with fail
                      all_goals go_roundw
                      case rel => exact ⟨k + 1, by go_num, by omega, hB.drew⟩
                      case measure => simp [intOf]; omega
                    · go_wp2_with fail
                      go_roundw
                      case rel => exact ⟨b, rfl, by omega, hnext, hB⟩
                      case measure => simp [intOf]; omega
            · go_wp2_with fail
              refine (placed_any _ _ _ _ _ _ _ _ hB.b1).mono ?_
              rintro e wx ⟨rfl, hwx⟩
              subst hwx
              go_wp2_with fail
              refine (placed_any _ _ _ _ _ _ _ _ hB.b2).mono ?_
              rintro e wx ⟨rfl, hwx⟩
              subst hwx
              rw [Hq2.out]
              go_wp2_with fail
              go_ret
              exact ⟨rfl, hB.below⟩
end Go.Proofs.Qxb6000402aMods
