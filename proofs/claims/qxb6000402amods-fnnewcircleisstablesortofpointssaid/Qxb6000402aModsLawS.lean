import Derived.Test.Qxb6000402aModsMwalk
import Derived.Test.Qxb6000402aModsLawR
namespace Go.Proofs.Qxb6000402aMods
open Go.RowKit Mem Deal
set_option linter.unusedVariables false

/-! ### The distinct owners, counted over the sorted row -/
def lows (g : Nat → Int) (i : Nat) : List Int := (seg g 0 i).map (fun p => p % 4294967296)
theorem lows_snoc (g : Nat → Int) (i : Nat) : lows g (i + 1) = lows g i ++ [g i % 4294967296] := by
  unfold lows; rw [seg_snoc g (Nat.zero_le i)]; simp
theorem lows_mem {g : Nat → Int} {i : Nat} {x : Int} : x ∈ lows g i ↔ ∃ j, j < i ∧ g j % 4294967296 = x := by
  simp [lows, seg]
theorem srt_mem {key : Int → Int} {l l' : List Int} (h : Srt key l l') (x : Int) : x ∈ l' ↔ x ∈ l := by
  have e := h.2 (key x)
  have h1 : x ∈ l'.filter (fun p => key p == key x) ↔ x ∈ l' := by simp
  have h2 : x ∈ l.filter (fun p => key p == key x) ↔ x ∈ l := by simp
  rw [← h1, ← h2, e]
theorem srt_le {key : Int → Int} {l : List Int} {g : Nat → Int} {n : Nat} (h : Srt key l (seg g 0 n)) {i j : Nat} (hij : i ≤ j) (hj : j < n) : key (g i) ≤ key (g j) := by
  by_cases e : i = j
  · subst e; exact Int.le_refl _
  have h1 := List.pairwise_iff_getElem.1 h.1 i j (by rw [seg_len]; omega) (by rw [seg_len]; omega) (by omega)
  simpa [seg] using h1

/-- What the count is behind i points. -/
def CntAt (m : Nat) (g : Nat → Int) (i c : Nat) : Prop := c = dis m (lows g i)
theorem cnt_zero (m : Nat) (g : Nat → Int) : CntAt m g 0 0 := by
  unfold CntAt lows; rw [seg_nil g (Nat.le_refl 0)]; exact (dis_nil m).symm
theorem cnt_le {m i c : Nat} {g : Nat → Int} (h : CntAt m g i c) : c ≤ m := by rw [h]; exact dis_le _ _
theorem cnt_same {m i c : Nat} {g : Nat → Int} (h : CntAt m g i c) (hi : 0 < i) (e : g i % 4294967296 = g (i - 1) % 4294967296) : CntAt m g (i + 1) c := by
  unfold CntAt at h ⊢
  rw [lows_snoc, dis_in _ _ _ (lows_mem.2 ⟨i - 1, by omega, e.symm⟩)]
  exact h
theorem cnt_new {m n i c : Nat} {pts : List Int} {g : Nat → Int} (h : CntAt m g i c) (hs : Srt (keyOf true) pts (seg g 0 n)) (hin : i < n) (hb : g i % 4294967296 < m) (e : i = 0 ∨ g i % 4294967296 ≠ g (i - 1) % 4294967296) : CntAt m g (i + 1) (c + 1) := by
  unfold CntAt at h ⊢
  have h0 : 0 ≤ g i % 4294967296 := by omega
  have hy : ((g i % 4294967296).toNat : Int) = g i % 4294967296 := by omega
  have hn : ((g i % 4294967296).toNat : Int) ∉ lows g i := by
    rw [hy, lows_mem]
    rintro ⟨j, hj, ej⟩
    rcases e with e | e
    · omega
    · have h1 := srt_le hs (show j ≤ i - 1 by omega) (show i - 1 < n by omega)
      have h2 := srt_le hs (show i - 1 ≤ i by omega) hin
      simp only [keyOf, if_true] at h1 h2
      omega
  have := dis_new m (lows g i) (g i % 4294967296).toNat (by omega) hn
  rw [hy] at this
  rw [lows_snoc, this, h]
theorem cnt_all {m n c : Nat} {pts : List Int} {g : Nat → Int} (h : CntAt m g n c) (hs : Srt (keyOf true) pts (seg g 0 n)) (hg : ∀ p ∈ pts, Deal.Good p) : c = dis m (owners pts) := by
  unfold CntAt at h
  rw [h]
  apply dis_congr
  intro v _
  unfold lows owners
  simp only [List.mem_map]
  constructor
  · rintro ⟨p, hp, e⟩
    have hp2 := (srt_mem hs p).1 hp
    exact ⟨p, (mem_l3 hg).2 hp2, by have := (hg p hp2).2.2; unfold own; omega⟩
  · rintro ⟨p, hp, e⟩
    have hp2 := (mem_l3 hg).1 hp
    exact ⟨p, (srt_mem hs p).2 hp2, by have := (hg p hp2).2.2; unfold own at e; omega⟩
theorem key_pos : keyOf false = pos := rfl
theorem row_l3 {wr : World} {S n : Nat} {pts : List Int} {g : Nat → Int} (h : FRow wr S 37 .u64 n g) (hs : Srt (keyOf false) pts (seg g 0 n)) (hg : ∀ p ∈ pts, Deal.Good p) : FRow wr S 37 .u64 n (fun i => (l3 pts).getD i 0) := by
  rw [key_pos] at hs
  have e := srt_l3 hg hs
  refine h.congr fun j hj => ?_
  show g j = (l3 pts).getD j 0
  rw [← e]
  exact (seg_get g n j hj).symm
theorem srt_bound {g : Nat → Int} {n : Nat} {pts : List Int} (hs : Srt (keyOf true) pts (seg g 0 n)) {m : Nat} (hm : ∀ p ∈ pts, p % 4294967296 < m) {i : Nat} (hi : i < n) : g i % 4294967296 < m := by
  apply hm
  rw [← srt_mem hs]
  simp [seg]
  exact ⟨i, hi, rfl⟩

/-- What stands behind the circle. -/
structure Ht (w wr : World) (B W O n q : Nat) (nv : Value) (oa : Option Addr) (pts : List Int) : Prop where
  b : Row wr B 30 [.slice (some ⟨W, 0, none⟩) n n, .slice none 0 0, .slice none 0 0, .slice (some ⟨O, 0, none⟩) n n, nv, .int .i64 q]
  wd : FRow wr W 36 .u32 n (fun i => pos ((l3 pts).getD i 0))
  o : FRow wr O 39 .u16 n (fun i => own ((l3 pts).getD i 0))
  org : PtsIn wr oa n pts
  below : Below w.heap.size w wr
theorem Ht.kept {w wr wx : World} {B W O n q : Nat} {nv : Value} {oa : Option Addr} {pts : List Int} (h : Ht w wr B W O n q nv oa pts) (k : Keeps [] wr wx) : Ht w wx B W O n q nv oa pts :=
  ⟨Row.kept h.b k (by simp), Row.kept h.wd k (by simp), Row.kept h.o k (by simp), h.org.kept k, below_keeps h.below k h.below.size (by simp)⟩
theorem Keeps.drewN {S : List Nat} {a : World} (k : Nat) : Keeps S a (a.drewN k) := ⟨rfl, rfl, rfl, Nat.le_refl _, fun _ _ _ => rfl⟩
theorem ht_of {w wr w4 : World} {P Q W O n q : Nat} {nv : Value} {oa : Option Addr} {pts : List Int} (hb : Below w.heap.size w wr) (hP : w.heap.size ≤ P) (hL : Laid wr w4 W O P n pts) (hQ : PtsCopy wr oa Q n pts) (hPQ : 0 < n → P ≠ Q) :
    Ht w (w4.alloc (.cells #[.slice (some ⟨W, 0, none⟩) n n, .slice none 0 0, .slice none 0 0, .slice (some ⟨O, 0, none⟩) n n, nv, .int .i64 q] 30)) w4.heap.size W O n q nv oa pts := by
  have s0 := hb.size
  have s1 := hL.keep.size
  refine ⟨row_new w4 _ 30, Row.alloc hL.wd _, Row.alloc hL.o _, ?_, ?_⟩
  · exact ((hQ.kept hL.keep (fun h0 => by simp; exact fun e => hPQ h0 e.symm)).isIn).kept ((Keeps.refl [] w4).alloc _)
  · exact (below_keeps hb hL.keep s0 (by simpa using hP)).alloc (by omega) _

set_option maxRecDepth 100000 in
set_option maxHeartbeats 4000000 in
theorem sort_walk (na pa : Option Addr) (m mc n nc : Nat) (f : Nat → ByteArray) (pts : List Int) (w : World) (hm : m ≤ 9223372036854775807) (hn : n ≤ 9223372036854775807) (Hn : Hid (NmsIn w na m f)) (Hp : Hid (PtsIn w pa n pts))
    (Hn0 : Hid (na = none → m = 0 ∧ mc = 0)) (Hp0 : Hid (pa = none → n = 0 ∧ nc = 0)) (Hs : Hid (∀ j, j < m → (f j).size ≤ 9223372036854775807)) (Hl : Hid (pts.length = n)) (Hw : Hid (∀ p ∈ pts, 0 ≤ p ∧ p < 18446744073709551616)) :
    Calls Trym.prog 3 #[.slice na m mc, .slice pa n nc] w fun e w' => e = .returned (.bool true) ∧ Below w.heap.size w w' := by
  have hnil := fun wx => run_neq_slice_nil_any (P := Trym.prog) wx 27 36 none 0 0 0 0 Trym.underlying27
  go_enter Trym.func3, Trym.ntmps3
  go_wp2_with fail
  refine (bytes8 na pa m mc n nc f w hm hn Hn Hs).mono ?_
  rintro e w' (⟨rfl, rfl⟩ | ⟨rfl, rfl, hs⟩)
  · go_wp2_with fail
    go_ret
    exact ⟨rfl, Below.refl _ _⟩
  have Hs1 : Hid (∀ j, j < m → (f j).size ≤ 1048576) := hs
  clear hs Hs
  go_wp2_with fail
  refine (over_any na pa m mc n nc f _ hm hn Hn Hs1).mono ?_
  rintro e w' (⟨rfl, rfl⟩ | ⟨rfl, rfl, hm1, hn1⟩)
  · go_wp2_with fail
    go_ret
    exact ⟨rfl, Below.refl _ _⟩
  go_wp2_with fail
  refine (nodes_any na pa m mc n nc pts _ hm1 hn1 Hp Hl Hw).mono ?_
  rintro e w' (⟨rfl, rfl⟩ | ⟨rfl, rfl, ho⟩)
  · go_wp2_with fail
    go_ret
    exact ⟨rfl, Below.refl _ _⟩
  have Hg : Hid (∀ p ∈ pts, Deal.Good p) := fun p hp => ⟨(Hw.out p hp).1, (Hw.out p hp).2, by have := ho p hp; omega⟩
  have Hm : Hid (∀ p ∈ pts, own p < m) := fun p hp => by have := ho p hp; unfold own; omega
  have Ho : Hid (∀ p ∈ pts, p % 4294967296 < m) := ho
  clear ho
  go_wp2_with fail
  refine (copyNms_any na m mc f _ hm1 Hn Hn0).mono ?_
  rintro e w1 ⟨na1, mc1, rfl, Hn1, Hn01, hk1⟩
  have hb1 := below_keeps (Below.refl _ _) hk1 (Nat.le_refl _) (by simp)
  have hs1 := hk1.size
  go_wp2_with fail
  refine (copyPts_any pa n nc pts _ hn1 (Hp.out.kept hk1) Hp0).mono ?_
  rintro e w2 ⟨pa1, rfl, Hp1, Hp01, hk2⟩
  have hb2 := below_keeps hb1 hk2 hs1 (by simp)
  have hs2 := hk2.size
  go_wp2_with fail
  refine (copyPts_any pa1 n n pts _ hn1 Hp1.out.isIn Hp01).mono ?_
  rintro e w3 ⟨oa, rfl, Hp2, Hp02, hk3⟩
  have hb3 := below_keeps hb2 hk3 (by omega) (by simp)
  have hs3 := hk3.size
  have Hc1 : Hid (PtsCopy w3 pa1 w1.heap.size n pts) := Hp1.out.kept hk3 (by simp)
  go_wp2_with fail
  refine (circ w1.heap.size n m mc1 na1 pa1 pts w3 hn1 hm1 Hl Hg Hm Hc1).mono ?_
  rintro e w4 ⟨W, O, rfl, hL⟩
  obtain ⟨q, hq⟩ : ∃ q, q = dis m (owners pts) := ⟨_, rfl⟩
  rw [← hq]
  have Hq : Hid (q = dis m (owners pts)) := hq
  clear hq
  unfold circleV
  have hH := ht_of (q := q) (nv := .slice na1 m mc1) hb3 hs1 hL Hp2.out (fun h0 => by have := Row.lt (Hp1.out h0).2; omega)
  clear hL Hc1 Hp2 hk3 hk2 hk1 hb1 hb2 hb3 Hp1 Hn1
  go_wp2_with fail
  generalize w4.alloc (.cells #[.slice (some ⟨W, 0, none⟩) n n, .slice none 0 0, .slice none 0 0, .slice (some ⟨O, 0, none⟩) n n, .slice na1 m mc1, .int .i64 q] 30) = w5 at hH ⊢
  generalize w4.heap.size = B at hH ⊢
  refine (starts_any _ _ _ _ _ _ _ _ hH.b).mono ?_
  rintro e wx ⟨rfl, hwx⟩
  subst hwx
  go_wp2_with fail
  refine (wide_any _ _ _ _ _ _ _ _ hH.b).mono ?_
  rintro e wx ⟨rfl, hwx⟩
  subst hwx
  go_wp2_with fail
  refine (owners_any _ _ _ _ _ _ _ _ hH.b).mono ?_
  rintro e wx ⟨rfl, hwx⟩
  subst hwx
  go_wp2_with fail
  refine (msort_any false oa n n pts _ hn1 hH.org Hl Hw).mono ?_
  rintro e w6 ⟨S, g, rfl, hS, hsrt, _, hk6, hS0⟩
  replace hS := row_l3 hS hsrt.out Hg.out
  replace hH := hH.kept hk6
  clear hsrt hk6
  go_wp2_with fail
  go_loopw [10] (fun iv wr => ∃ j : Nat, iv = .int .i64 j ∧ j ≤ n ∧ FRow wr S 37 .u64 n (fun i => (l3 pts).getD i 0) ∧ Ht w' wr B W O n q (.slice na1 m mc1) oa pts) (fun iv _ => n - (intOf iv).toNat)
  case atStart => exact ⟨0, rfl, by omega, hS, hH⟩
  case round =>
    clear hH hS
    obtain ⟨j, rfl, hj, hS, hH⟩ := hrel
    by_cases hlt : j < n
    · have hcw := hH.wd.cell hlt
      have hco := hH.o.cell hlt
      have hcs := hS.cell hlt
      have hjl : j < (l3 pts).length := by rw [len_l3 Hg.out, Hl.out]; exact hlt
      obtain ⟨p, hp⟩ : ∃ p, p = (l3 pts).getD j 0 := ⟨_, rfl⟩
      have hpb : 0 ≤ p ∧ p < 18446744073709551616 := by
        rw [hp, show (l3 pts).getD j 0 = (l3 pts)[j] by simp [List.getD, hjl]]
        exact Hw.out _ ((mem_l3 Hg.out).1 (List.getElem_mem hjl))
      rw [← hp] at hcw hco hcs
      rw [← wrap16] at hco
      rw [show pos p = p / 4294967296 from rfl] at hcw
      clear hp hjl
      obtain ⟨hp0, hp1⟩ := hpb
      have hr1 : 0 ≤ p / 4294967296 := by omega
      have hr2 : p / 4294967296 < 4294967296 := by omega
      have hli : (j : Int) < (n : Int) := by omega
      go_wp2_with fail
      go_big_quiet (fail)
      go_wp2_with fail
      go_roundw
      case rel => exact ⟨j + 1, by go_num, by omega, hS, hH.kept (Keeps.drewN _)⟩
      case measure => simp [intOf]; omega
    · clear hS
      go_wp2_with fail
      clear hlt hj
      refine (msort_any true oa n n pts _ hn1 hH.org Hl Hw).mono ?_
      rintro e w7 ⟨T, g, rfl, hT, hsrt, hbd, hk7, hT0⟩
      replace hH := hH.kept hk7
      clear hk7 hT0 hS0
      go_wp2_with fail
      go_loopw [12, 13] (fun cv iv wr => ∃ c j : Nat, cv = .int .i64 c ∧ iv = .int .i64 j ∧ j ≤ n ∧ Hid (CntAt m g j c) ∧ FRow wr T 37 .u64 n g ∧ Ht w' wr B W O n q (.slice na1 m mc1) oa pts) (fun _ iv _ => n - (intOf iv).toNat)
      case atStart => exact ⟨0, 0, rfl, rfl, by omega, cnt_zero _ _, hT, hH⟩
      case round =>
        clear hH hT
        obtain ⟨c, j, rfl, rfl, hj, hc, hT, hH⟩ := hrel
        have hcl := cnt_le hc.out
        by_cases hlt : j < n
        · have hct := hT.cell hlt
          have hli : (j : Int) < (n : Int) := by omega
          have hlo := srt_bound hsrt.out Ho.out hlt
          obtain ⟨hp0, hp1⟩ := hbd.out j hlt
          by_cases hj0 : j = 0
          · have hc1 : Hid (CntAt m g (j + 1) (c + 1)) := cnt_new hc.out hsrt.out hlt hlo (.inl hj0)
            generalize g j = p at hct
            subst hj0
            go_wp2_with fail
            go_big_quiet (fail)
            go_wp2_with fail
            go_roundw
            case rel => exact ⟨c + 1, 1, by go_num, by go_num, by omega, hc1, hT, hH.kept (Keeps.drewN _)⟩
            case measure => simp [intOf]; omega
          · have hj1 : j - 1 < n := by omega
            have hcu := hT.cell hj1
            obtain ⟨hq0, hq1⟩ := hbd.out (j - 1) hj1
            have hm1' := mask32 (g j) hp0 hp1
            have hm2 := mask32 (g (j - 1)) hq0 hq1
            have hd0 : ((j : Int) == 0) = false := by simp [hj0]
            have hd1 : (j == 0) = false := by simp [hj0]
            have hix : (0 : Int) ≤ (j : Int) - 1 := by omega
            have hix2 : (j : Int) - 1 < (n : Int) := by omega
            by_cases heq : g j % 4294967296 = g (j - 1) % 4294967296
            · have hc1 : Hid (CntAt m g (j + 1) c) := cnt_same hc.out (by omega) heq
              rw [heq] at hm1'
              clear heq hlo
              generalize g j = p at hct hm1' hp0 hp1
              generalize g (j - 1) = p' at hcu hm1' hm2 hq0 hq1
              generalize p' % 4294967296 = y at hm1' hm2
              go_wp2_with fail
              go_big_quiet (fail)
              go_wp2_with fail
              go_roundw
              case rel => exact ⟨c, j + 1, rfl, by go_num, by omega, hc1, hT, hH.kept (Keeps.drewN _)⟩
              case measure => simp [intOf]; omega
            · have hc1 : Hid (CntAt m g (j + 1) (c + 1)) := cnt_new hc.out hsrt.out hlt hlo (.inr heq)
              clear hlo
              generalize g j = p at hct hm1' hp0 hp1 heq
              generalize g (j - 1) = p' at hcu hm2 hq0 hq1 heq
              generalize p' % 4294967296 = y at hm2 heq
              generalize p % 4294967296 = x at hm1' heq
              have hne : (x == y) = false := by simp [heq]
              clear heq
              go_wp2_with fail
              go_big_quiet (fail)
              go_wp2_with fail
              go_roundw
              case rel => exact ⟨c + 1, j + 1, by go_num, by go_num, by omega, hc1, hT, hH.kept (Keeps.drewN _)⟩
              case measure => simp [intOf]; omega
        · have e : j = n := by omega
          have hcq : Hid (c = q) := by rw [Hq.out]; rw [e] at hc; exact cnt_all hc.out hsrt.out Hg.out
          clear e
          go_wp2_with fail
          refine (placed_any _ _ _ _ _ _ _ _ hH.b).mono ?_
          rintro e wx ⟨rfl, hwx⟩
          subst hwx
          rw [hcq.out]
          go_wp2_with fail
          go_ret
          exact ⟨rfl, hH.below⟩
end Go.Proofs.Qxb6000402aMods
