import Derived.Test.Qxb6000402aModsFirst
import Derived.Test.Qxb6000402aModsLawR
namespace Go.Proofs.Qxb6000402aMods
open Go.RowKit Mem Deal
set_option linter.unusedVariables false

theorem at_unique {f : Nat → Int} {n k k' : Nat} {x : Int} (h : At f n x k) (h' : At f n x k') : k = k' := by
  obtain ⟨a1, a2, a3⟩ := h
  obtain ⟨b1, b2, b3⟩ := h'
  by_cases e1 : k < k'
  · have := b2 k e1
    have := a3 k (Nat.le_refl _) (by omega)
    omega
  · by_cases e2 : k' < k
    · have := a2 k' e2
      have := b3 k' (Nat.le_refl _) (by omega)
      omega
    · omega
theorem first_in {f : Nat → Int} {n k k' : Nat} {x : Int} (h : FirstAt f n x k') (hA : At f n x k) (hk : k < n) : k' = k := by
  rcases h with ⟨_, h⟩ | ⟨_, h⟩
  · exact at_unique h hA
  · have := at_unique h hA; omega
theorem first_out {f : Nat → Int} {n k' : Nat} {x : Int} (h : FirstAt f n x k') (hA : At f n x n) : k' = 0 := by
  rcases h with ⟨h1, h⟩ | ⟨h1, _⟩
  · have := at_unique h hA; omega
  · exact h1
/-- The positions as they stand on the circle. -/
def pf (pts : List Int) : Nat → Int := fun i => pos ((l3 pts).getD i 0)
theorem pf_up {pts : List Int} {n : Nat} (hg : ∀ p ∈ pts, Deal.Good p) (hl : pts.length = n) : Up (pf pts) n := fun i j h1 h2 => l3_le hg h1 (by rw [hl]; exact h2)
theorem pos_b (l : List Int) (h : ∀ p ∈ l, 0 ≤ p ∧ p < 18446744073709551616) (i : Nat) (hi : i < l.length) : 0 ≤ pos (l.getD i 0) ∧ pos (l.getD i 0) < 4294967296 := by
  rw [show l.getD i 0 = l[i] by simp [List.getD, hi]]
  have := h _ (List.getElem_mem hi)
  unfold pos
  omega
theorem pf_b {pts : List Int} {n : Nat} (hg : ∀ p ∈ pts, Deal.Good p) (hl : pts.length = n) : ∀ i, i < n → 0 ≤ pf pts i ∧ pf pts i < 4294967296 :=
  fun i hi => pos_b (l3 pts) (fun p hp => ⟨(hg p ((mem_l3 hg).1 hp)).1, (hg p ((mem_l3 hg).1 hp)).2.1⟩) i (by rw [len_l3 hg, hl]; exact hi)

/-- What stands behind the circle. -/
structure Rg (w wr : World) (B W O n q : Nat) (nv : Value) (pts : List Int) : Prop where
  b : Row wr B 30 [.slice (some ⟨W, 0, none⟩) n n, .slice none 0 0, .slice none 0 0, .slice (some ⟨O, 0, none⟩) n n, nv, .int .i64 q]
  wd : FRow wr W 36 .u32 n (pf pts)
  below : Below w.heap.size w wr
theorem rg_of {w wr w4 : World} {P W O n q : Nat} {nv : Value} {pts : List Int} (hb : Below w.heap.size w wr) (hP : w.heap.size ≤ P) (hL : Laid wr w4 W O P n pts) :
    Rg w (w4.alloc (.cells #[.slice (some ⟨W, 0, none⟩) n n, .slice none 0 0, .slice none 0 0, .slice (some ⟨O, 0, none⟩) n n, nv, .int .i64 q] 30)) w4.heap.size W O n q nv pts := by
  have s0 := hb.size
  have s1 := hL.keep.size
  exact ⟨row_new w4 _ 30, Row.alloc hL.wd _, (below_keeps hb hL.keep s0 (by simpa using hP)).alloc (by omega) _⟩
theorem Rg.drewN {w wr : World} {B W O n q : Nat} {nv : Value} {pts : List Int} (h : Rg w wr B W O n q nv pts) (k : Nat) : Rg w (wr.drewN k) B W O n q nv pts :=
  ⟨h.b, h.wd, ⟨h.below.os, h.below.tape, h.below.output, h.below.size, h.below.block⟩⟩

set_option maxRecDepth 100000 in
set_option maxHeartbeats 4000000 in
theorem scan_walk (na pa : Option Addr) (m mc n nc : Nat) (f : Nat → ByteArray) (pts : List Int) (x : Int) (w : World) (hm : m ≤ 9223372036854775807) (hn : n ≤ 9223372036854775807) (hx0 : 0 ≤ x) (hx1 : x < 4294967296) (Hn : Hid (NmsIn w na m f)) (Hp : Hid (PtsIn w pa n pts))
    (Hn0 : Hid (na = none → m = 0 ∧ mc = 0)) (Hp0 : Hid (pa = none → n = 0 ∧ nc = 0)) (Hs : Hid (∀ j, j < m → (f j).size ≤ 9223372036854775807)) (Hl : Hid (pts.length = n)) (Hw : Hid (∀ p ∈ pts, 0 ≤ p ∧ p < 18446744073709551616)) :
    Calls Trym.prog 6 #[.slice na m mc, .slice pa n nc, .int .u32 x] w fun e w' => e = .returned (.bool true) ∧ Below w.heap.size w w' := by
  go_enter Trym.func6, Trym.ntmps6
  go_wp2_with fail
  refine (bytes21 na pa m mc n nc f x w hm hn Hn Hs).mono ?_
  rintro e w' (⟨rfl, rfl⟩ | ⟨rfl, rfl, hs⟩)
  · go_wp2_with fail
    go_ret
    exact ⟨rfl, Below.refl _ _⟩
  have Hs1 : Hid (∀ j, j < m → (f j).size ≤ 1048576) := hs
  clear hs Hs
  go_wp2_with fail
  refine (over_any na pa m mc n nc f _ hm hn Hn Hs1).mono ?_
  rintro e w' (⟨rfl, rfl⟩ | ⟨rfl, rfl, hm1, hn1⟩)
  · go_wp2_with fail
    go_ret
    exact ⟨rfl, Below.refl _ _⟩
  go_wp2_with fail
  refine (nodes_any na pa m mc n nc pts _ hm1 hn1 Hp Hl Hw).mono ?_
  rintro e w' (⟨rfl, rfl⟩ | ⟨rfl, rfl, ho⟩)
  · go_wp2_with fail
    go_ret
    exact ⟨rfl, Below.refl _ _⟩
  have Hg : Hid (∀ p ∈ pts, Deal.Good p) := fun p hp => ⟨(Hw.out p hp).1, (Hw.out p hp).2, by have := ho p hp; omega⟩
  have Hm : Hid (∀ p ∈ pts, own p < m) := fun p hp => by have := ho p hp; unfold own; omega
  clear ho
  by_cases hz : n = 0
  · go_wp2_with fail
    go_ret
    exact ⟨rfl, Below.refl _ _⟩
  have hz1 : ((n : Int) == 0) = false := by simp [hz]
  go_wp2_with fail
  refine (copyNms_any na m mc f _ hm1 Hn Hn0).mono ?_
  rintro e w1 ⟨na1, mc1, rfl, Hn1, Hn01, hk1⟩
  have hb1 := below_keeps (Below.refl _ _) hk1 (Nat.le_refl _) (by simp)
  have hs1 := hk1.size
  go_wp2_with fail
  refine (copyPts_any pa n nc pts _ hn1 (Hp.out.kept hk1) Hp0).mono ?_
  rintro e w2 ⟨pa1, rfl, Hp1, Hp01, hk2⟩
  have hb2 := below_keeps hb1 hk2 hs1 (by simp)
  go_wp2_with fail
  refine (circ w1.heap.size n m mc1 na1 pa1 pts w2 hn1 hm1 Hl Hg Hm Hp1).mono ?_
  rintro e w4 ⟨W, O, rfl, hL⟩
  generalize dis m (owners pts) = q
  unfold circleV
  have hR := rg_of (q := q) (nv := .slice na1 m mc1) hb2 hs1 hL
  clear hL Hp1 hk2 hk1 hb1 hb2 Hn1
  go_wp2_with fail
  generalize w4.alloc (.cells #[.slice (some ⟨W, 0, none⟩) n n, .slice none 0 0, .slice none 0 0, .slice (some ⟨O, 0, none⟩) n n, .slice na1 m mc1, .int .i64 q] 30) = w5 at hR ⊢
  generalize w4.heap.size = B at hR ⊢
  refine (wide_any _ _ _ _ _ _ _ _ hR.b).mono ?_
  rintro e wx ⟨rfl, hwx⟩
  subst hwx
  have Hf : Hid (∀ i, i < n → 0 ≤ pf pts i ∧ pf pts i < 4294967296) := pf_b Hg.out Hl.out
  have Hu : Hid (Up (pf pts) n) := pf_up Hg.out Hl.out
  go_wp2_with fail
  go_loop [9, 10] (fun zv kv => ∃ k : Nat, zv = .int .i64 0 ∧ kv = .int .i64 k ∧ k ≤ n ∧ Hid (∀ i, i < k → pf pts i < x)) (fun _ kv => n - (intOf kv).toNat)
  case atStart => exact ⟨0, rfl, rfl, by omega, fun i hi => by omega⟩
  case round =>
    obtain ⟨k, rfl, rfl, hk, hlo⟩ := hrel
    by_cases hlt : k < n
    · have hc := hR.wd.cell hlt
      by_cases hge : x ≤ pf pts k
      · have hat : Hid (At (pf pts) n x k) := ⟨by omega, hlo.out, fun i h1 h2 => Int.le_trans hge (Hu.out k i h1 h2)⟩
        generalize pf pts k = y at hc hge
        have hd : decide (x ≤ y) = true := decide_eq_true hge
        go_wp2_with fail
        refine (zzFirst_any B W n (pf pts) x _ _ _ _ _ _ hn1 hx0 hx1 hR.b hR.wd Hf Hu).mono ?_
        rintro e w' ⟨k', rfl, rfl, hk'⟩
        obtain rfl := first_in hk'.out hat.out hlt
        go_wp2_with fail
        go_ret
        exact ⟨rfl, hR.below⟩
      · have hlo1 : Hid (∀ i, i < k + 1 → pf pts i < x) := by
          intro i hi
          by_cases e : i = k
          · rw [e]; omega
          · exact hlo.out i (by omega)
        generalize pf pts k = y at hc hge
        go_wp2_with fail
        refine ⟨⟨k + 1, rfl, by go_num, by omega, hlo1⟩, by simp [intOf]; omega⟩
    · have e : k = n := by omega
      have hat : Hid (At (pf pts) n x n) := ⟨Nat.le_refl _, fun i hi => hlo.out i (by omega), fun i h1 h2 => by omega⟩
      go_wp2_with fail
      refine (zzFirst_any B W n (pf pts) x _ _ _ _ _ _ hn1 hx0 hx1 hR.b hR.wd Hf Hu).mono ?_
      rintro e w' ⟨k', rfl, rfl, hk'⟩
      obtain rfl := first_out hk'.out hat.out
      rw [show ((0 : Nat) : Int) = 0 from rfl]
      go_wp2_with fail
      go_ret
      exact ⟨rfl, hR.below⟩
end Go.Proofs.Qxb6000402aMods
