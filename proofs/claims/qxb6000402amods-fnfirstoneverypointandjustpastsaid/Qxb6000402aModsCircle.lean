import Derived.Test.Qxb6000402aModsSort
import Derived.Test.Qxb6000402aModsDis
namespace Go.Proofs.Qxb6000402aMods
open Go.RowKit Mem Deal
set_option linter.unusedVariables false

theorem info39 : (Trym.prog.info? 39).map (fun i => (i.zero, i.size, i.bytes)) = some (some (.int .u16 0), 1, 2) := by kernel_rfl
theorem info4 : (Trym.prog.info? 4).map (fun i => (i.zero, i.size, i.bytes)) = some (some (.bool false), 1, 1) := by kernel_rfl

/-- A row of bools. -/
def BRow (w : World) (B m : Nat) (f : Nat → Bool) : Prop := Row w B 4 ((List.range m).map (fun v => .bool (f v)))
theorem BRow.cell {w : World} {B m : Nat} {f : Nat → Bool} (h : BRow w B m f) {v : Nat} (hv : v < m) : w.cell? ⟨B, v, none⟩ = some (.bool (f v)) := by
  rw [Row.cell h]; simp [hv]
theorem BRow.set {w : World} {B m : Nat} {f : Nat → Bool} (h : BRow w B m f) (y : Nat) (g : Nat → Bool) (hg : ∀ v, g v = if v = y then true else f v) : BRow (w.setCell ⟨B, y, none⟩ (.bool true)) B m g := by
  have h1 := Row.set h y (.bool true)
  unfold BRow
  have e : ((List.range m).map (fun v => Value.bool (f v))).set y (.bool true) = (List.range m).map (fun v => Value.bool (g v)) := by
    apply List.ext_getElem
    · simp
    · intro i h1 h2
      simp only [List.getElem_set, List.getElem_map, List.getElem_range]
      rw [hg i]
      by_cases e : y = i
      · subst e; simp
      · rw [if_neg e, if_neg (fun h => e h.symm)]
  rw [← e]; exact h1
theorem made_bools {w w' : World} {n : Nat} (h : w'.ownsRow w.heap.size 4 1 (.slice (some ⟨w.heap.size, 0, none⟩) n n) n (madeCells (Value.bool false).cells (n * 1)).toList) : BRow w' w.heap.size n (fun _ => false) := by
  obtain ⟨hl, h | ⟨g, cap, cur, hv, _, hg, _, _, hs, ht⟩⟩ := h
  · cases h.1
  · simp only [Value.slice.injEq, Option.some.injEq, Addr.mk.injEq, true_and, and_true] at hv
    obtain ⟨rfl, rfl⟩ := hv
    have e1 : cur.toList = (List.range n).map (fun _ => Value.bool false) := by
      have e2 : (madeCells (Value.bool false).cells (n * 1)).toList = (List.range n).map (fun _ => Value.bool false) := by
        show (madeCells #[Value.bool false] (n * 1)).toList = _
        rw [toList_madeCells_one, List.map_const']
        simp
      rw [← e2, ← ht, List.take_of_length_le (by simp; omega)]
    unfold BRow Row
    rw [← e1]
    simpa using hg

/-- The owners, in the circle's order. -/
def owners (pts : List Int) : List Int := (l3 pts).map own

/-- The blocks of newCircle behind the sort. -/
structure Np (w wr : World) (R C O W Q P n m : Nat) (nv : Value) (pts : List Int) (i : Nat) : Prop where
  r : Row wr R 30 [.slice none 0 0, .slice none 0 0, .slice none 0 0, .slice none 0 0, .slice none 0 0, .int .i64 0]
  c : Row wr C 30 [.slice (some ⟨W, 0, none⟩) n n, .slice none 0 0, .slice none 0 0, .slice (some ⟨O, 0, none⟩) n n, nv, .int .i64 (dis m ((owners pts).take i))]
  o : FRow wr O 39 .u16 n (fun i => own ((l3 pts).getD i 0))
  wd : FRow wr W 36 .u32 n (fun i => pos ((l3 pts).getD i 0))
  b : BRow wr Q m (fun v => decide ((v : Int) ∈ (owners pts).take i))
  keep : Keeps [P] w wr

theorem np_start {w w1 w2 w3 w4 : World} {C O P n m : Nat} {nv : Value} {pts : List Int} (hw1 : w1 = w.alloc (.cells #[.slice none 0 0, .slice none 0 0, .slice none 0 0, .slice none 0 0, .slice none 0 0, .int .i64 0] 30))
    (hg : w1.grownBy w2 none) (hC : C = w2.heap.size) (hO : O = w.heap.size + 1) (st : Array Value) (hs : Sorted' (w2.alloc (.cells st 30)) w3 C O P n nv pts)
    (hb : BRow w4 w3.heap.size m (fun _ => false)) (hk : Keeps [] w3 w4) (hPw : P ≠ w.heap.size) (hOl : O < w2.heap.size) :
    ∃ W, Np w w4 w.heap.size C O W w3.heap.size P n m nv pts 0 ∧ C < W ∧ W < w3.heap.size := by
  obtain ⟨W, hWl, h1, h2, h3, h4⟩ := hs
  have s1 := hg.size
  have k1 : Keeps [] w w1 := by subst hw1; exact (Keeps.refl [] w).alloc _
  have k2 : Keeps [] w1 w2 := keeps_grown hg
  have e1 : w1.heap.size = w.heap.size + 1 := by subst hw1; simp
  have e2 : (w2.alloc (.cells st 30)).heap.size = w2.heap.size + 1 := by simp
  refine ⟨W, ⟨?_, ?_, h3.kept hk (by simp), h2.kept hk (by simp), ?_, ?_⟩, by omega, Row.lt h2⟩
  · have hr : Row w1 w.heap.size 30 [.slice none 0 0, .slice none 0 0, .slice none 0 0, .slice none 0 0, .slice none 0 0, .int .i64 0] := by subst hw1; exact row_new w _ 30
    exact ((((hr.kept k2 (by simp)).alloc _).kept h4 (by simp; omega)).kept hk (by simp))
  · have := h1.kept hk (by simp)
    simpa [dis_nil] using this
  · simpa using hb
  · refine ⟨?_, ?_, ?_, ?_, fun i hi hS => ?_⟩
    · exact hk.os.trans (h4.os.trans (k2.os.trans k1.os))
    · exact hk.tape.trans (h4.tape.trans (k2.tape.trans k1.tape))
    · exact hk.output.trans (h4.output.trans (k2.output.trans k1.output))
    · have := h4.size; have := hk.size; omega
    · simp only [List.mem_singleton] at hS
      have hs4 := h4.size
      rw [hk.block i (by omega) (by simp), h4.block i (by omega) (by simp; omega), Below.heap_alloc _ _ _ (by omega), k2.block i (by omega) (by simp), k1.block i hi (by simp)]

theorem getD_mem (l : List Int) (i : Nat) (h : i < l.length) : l.getD i 0 ∈ l := by
  have : l.getD i 0 = l[i] := by simp [List.getD, h]
  rw [this]; exact List.getElem_mem h
theorem map_getD (f : Int → Int) (l : List Int) (i : Nat) (h : i < l.length) : (l.map f).getD i 0 = f (l.getD i 0) := by
  simp [List.getD, h]
theorem owner_len (pts : List Int) : (owners pts).length = (l3 pts).length := List.length_map _
theorem owner_get {pts : List Int} {i : Nat} (hi : i < (owners pts).length) : (owners pts).getD i 0 = own ((l3 pts).getD i 0) :=
  map_getD own (l3 pts) i (by rw [← owner_len]; exact hi)
theorem owner_at {pts : List Int} {i n m : Nat} (hg : ∀ p ∈ pts, Deal.Good p) (hm : ∀ p ∈ pts, own p < m) (hl : pts.length = n) (hi : i < n) : ∃ y : Nat, (owners pts).getD i 0 = (y : Int) ∧ y < m := by
  have h2 : i < (l3 pts).length := by rw [len_l3 hg]; omega
  rw [owner_get (by rw [owner_len]; exact h2)]
  have hm2 := hm _ ((mem_l3 hg).1 (getD_mem (l3 pts) i h2))
  generalize (l3 pts).getD i 0 = p at hm2
  have hb := own_bd p
  exact ⟨(own p).toNat, by omega, by omega⟩

theorem np_in {w wr : World} {R C O W Q P n m i : Nat} {nv : Value} {pts : List Int} {y : Nat} (h : Np w wr R C O W Q P n m nv pts i) (hi : i < (owners pts).length) (hy : (owners pts).getD i 0 = (y : Int)) (hm : (y : Int) ∈ (owners pts).take i) :
    Np w wr R C O W Q P n m nv pts (i + 1) := by
  have e := take_snoc (owners pts) i hi
  rw [hy] at e
  refine ⟨h.r, ?_, h.o, h.wd, ?_, h.keep⟩
  · rw [e, dis_in _ _ _ hm]; exact h.c
  · have hb := h.b
    unfold BRow at hb ⊢
    have e2 : (List.range m).map (fun v : Nat => Value.bool (decide ((v : Int) ∈ (owners pts).take (i + 1)))) = (List.range m).map (fun v : Nat => Value.bool (decide ((v : Int) ∈ (owners pts).take i))) := by
      apply List.map_congr_left
      intro v _
      rw [e]
      refine congrArg Value.bool (decide_eq_decide.2 ?_)
      simp only [List.mem_append, List.mem_singleton]
      constructor
      · rintro (h1 | h1)
        · exact h1
        · rw [h1]; exact hm
      · exact .inl
    rw [e2]; exact hb
theorem np_new {w wr : World} {R C O W Q P n m i : Nat} {nv : Value} {pts : List Int} {y : Nat} (h : Np w wr R C O W Q P n m nv pts i) (hi : i < (owners pts).length) (hy : (owners pts).getD i 0 = (y : Int)) (hm : (y : Int) ∉ (owners pts).take i) (hym : y < m)
    (hR : w.heap.size ≤ R) (hRO : R < O) (hOC : O < C) (hCW : C < W) (hWQ : W < Q) :
    Np w ((wr.setCell ⟨Q, y, none⟩ (.bool true)).setCell ⟨C, 5, none⟩ (.int .i64 ((dis m ((owners pts).take i) : Int) + 1))) R C O W Q P n m nv pts (i + 1) := by
  have e := take_snoc (owners pts) i hi
  rw [hy] at e
  refine ⟨?_, ?_, ?_, ?_, ?_, ?_⟩
  · exact (h.r.other _ _ (by simp; omega)).other _ _ (by simp; omega)
  · have := Row.set (h.c.other (⟨Q, y, none⟩ : Addr) (.bool true) (by simp; omega)) 5 (.int .i64 ((dis m ((owners pts).take i) : Int) + 1))
    rw [e, dis_new _ _ _ hym hm]
    simpa using this
  · exact Row.other (Row.other h.o _ _ (by simp; omega)) _ _ (by simp; omega)
  · exact Row.other (Row.other h.wd _ _ (by simp; omega)) _ _ (by simp; omega)
  · refine Row.other (BRow.set h.b y _ (fun v => ?_)) _ _ (by simp; omega)
    rw [e]
    by_cases ev : v = y
    · subst ev; simp
    · rw [if_neg ev]
      simp only [List.mem_append, List.mem_singleton, decide_eq_decide]
      constructor
      · rintro (h1 | h1)
        · exact h1
        · omega
      · exact .inl
  · exact (h.keep.set (.inr (by simp; omega)) _).set (.inr (by simp; omega)) _

/-- The circle as a value. -/
def circleV (W O n : Nat) (nv : Value) (d : Nat) : Value := .agg #[.slice (some ⟨W, 0, none⟩) n n, .slice none 0 0, .slice none 0 0, .slice (some ⟨O, 0, none⟩) n n, nv, .int .i64 d]
/-- Positions and owners lie in blocks of the call's own; of the old blocks that of the points alone has turned. -/
structure Laid (w w' : World) (W O P n : Nat) (pts : List Int) : Prop where
  wd : FRow w' W 36 .u32 n (fun i => pos ((l3 pts).getD i 0))
  o : FRow w' O 39 .u16 n (fun i => own ((l3 pts).getD i 0))
  keep : Keeps [P] w w'
  wl : w.heap.size ≤ W
  ol : w.heap.size ≤ O

theorem np_laid {w wr : World} {R C O W Q P n m i : Nat} {nv : Value} {pts : List Int} (h : Np w wr R C O W Q P n m nv pts i) (hR : w.heap.size ≤ R) (hRO : R < O) (hOC : O < C) (hCW : C < W) (v0 v1 v2 v3 v4 v5 : Value) :
    Laid w ((((((wr.setCell ⟨R, 0, none⟩ v0).setCell ⟨R, 1, none⟩ v1).setCell ⟨R, 2, none⟩ v2).setCell ⟨R, 3, none⟩ v3).setCell ⟨R, 4, none⟩ v4).setCell ⟨R, 5, none⟩ v5) W O P n pts := by
  have k : ∀ {wx : World} {B : Nat} {t : TypeId} {xs : List Value}, B ≠ R → Row wx B t xs → ∀ (j : Nat) (v : Value), Row (wx.setCell ⟨R, j, none⟩ v) B t xs := fun hne h j v => h.other _ _ hne
  refine ⟨?_, ?_, ?_, by omega, by omega⟩
  · exact k (by omega) (k (by omega) (k (by omega) (k (by omega) (k (by omega) (k (by omega) h.wd _ _) _ _) _ _) _ _) _ _) _ _
  · exact k (by omega) (k (by omega) (k (by omega) (k (by omega) (k (by omega) (k (by omega) h.o _ _) _ _) _ _) _ _) _ _) _ _
  · exact (((((h.keep.set (.inr hR) _).set (.inr hR) _).set (.inr hR) _).set (.inr hR) _).set (.inr hR) _).set (.inr hR) _

set_option maxRecDepth 100000 in
set_option maxHeartbeats 2000000 in
theorem circle_any (P n m mc : Nat) (na pa : Option Addr) (pts : List Int) (w : World) (hn : n ≤ 131072) (hm : m ≤ 65536) (Hl : Hid (pts.length = n)) (Hg : Hid (∀ p ∈ pts, Deal.Good p))
    (Hm : Hid (∀ p ∈ pts, own p < m)) (Hp : Hid (0 < n → pa = some ⟨P, 0, none⟩ ∧ FRow w P 37 .u64 n (fun j => pts.getD j 0))) (hP0 : P ≠ w.heap.size) :
    Calls Trym.prog 24 #[.slice na m mc, .slice pa n n] w fun e w' => ∃ W O, e = .returned (circleV W O n (.slice na m mc) (dis m (owners pts))) ∧ Laid w w' W O P n pts := by
  obtain ⟨i0, hi0, hz0, hz1, hz2⟩ := info_parts info39
  obtain ⟨i4, hi4, hz40, hz41, hz42⟩ := info_parts info4
  obtain ⟨w1, hw1⟩ : ∃ w1, w1 = w.alloc (.cells #[.slice none 0 0, .slice none 0 0, .slice none 0 0, .slice none 0 0, .slice none 0 0, .int .i64 0] 30) := ⟨_, rfl⟩
  have Hw1 : Hid (w1 = w.alloc (.cells #[.slice none 0 0, .slice none 0 0, .slice none 0 0, .slice none 0 0, .slice none 0 0, .int .i64 0] 30)) := hw1
  have Hs1 : Hid (w1.heap.size = w.heap.size + 1) := by show _ = _; rw [hw1]; simp
  clear hw1
  go_enter Trym.func24, Trym.ntmps24
  go_wp2_with (at_make; rw [← Hw1.out]; refine wpList_make_full _ rfl _ _ 28 rfl w1.heap.size 39 i0 (.int .u16 0) 1 Trym.underlying28 hi0 hz0 hz1 _ _ _ _ n rfl rfl rfl rfl (by rw [hz2]; omega) (by unfold maxLen; omega) (Nat.le_refl _) ?_; rw [Hs1.out]; intro w2 hown hgrow; have hO2 := made_row (by rw [Hs1.out]; exact hown); rw [Hs1.out] at hO2; clear hown)
  have hCs := row_new w2 #[.slice none 0 0, .slice none 0 0, .slice none 0 0, .slice (some ⟨w.heap.size + 1, 0, none⟩) n n, .slice na m mc, .int .i64 0] 30
  have hOl : w.heap.size + 1 < w2.heap.size := Row.lt hO2
  refine (sort_any w2.heap.size (w.heap.size + 1) P n pa (.slice na m mc) pts (fun _ => 0) _ hn Hl Hg hCs ?_ (Row.alloc hO2 _) (by omega)).mono ?_
  · intro h0
    obtain ⟨h1, h2⟩ := Hp.out h0
    have h3 := Row.lt h2
    have k1 : Keeps [] w w1 := by rw [Hw1.out]; exact (Keeps.refl [] w).alloc _
    exact ⟨h1, Row.alloc (Row.kept (Row.kept h2 k1 (by simp)) (keeps_grown hgrow) (by simp)) _, by omega, by omega⟩
  rintro e w3 ⟨rfl, hs⟩
  clear hCs hO2
  go_wp2_with (at_make; refine wpList_make_full _ rfl _ _ 46 rfl w3.heap.size 4 i4 (.bool false) 1 Trym.underlying46 hi4 hz40 hz41 _ _ _ _ m rfl rfl rfl rfl (by rw [hz42]; omega) (by unfold maxLen; omega) (Nat.le_refl _) ?_; intro w4 hown4 hgrow4; obtain ⟨W, hNp, hCW, hWQ⟩ := np_start Hw1.out hgrow rfl rfl _ hs (made_bools hown4) (keeps_grown hgrow4) hP0 hOl; have hc3 := hNp.c.cell 3; simp only [List.getElem?_cons_succ, List.getElem?_cons_zero] at hc3; clear hown4 hgrow4 hs)
  clear hc3 hgrow
  have Hlo : Hid ((owners pts).length = n) := by show _ = _; rw [owner_len, len_l3 Hg.out]; exact Hl.out
  generalize w3.heap.size = Q at *
  generalize w2.heap.size = C at *
  go_loopw [22] (fun iv wr => ∃ i : Nat, iv = .int .i64 i ∧ i ≤ n ∧ Np w wr w.heap.size C (w.heap.size + 1) W Q P n m (.slice na m mc) pts i) (fun iv _ => n - (intOf iv).toNat)
  case atStart => exact ⟨0, rfl, by omega, hNp⟩
  case round =>
    clear hNp
    obtain ⟨i, rfl, hi, hNp⟩ := hrel
    by_cases hlt : i < n
    · have hil : i < (owners pts).length := by rw [Hlo.out]; exact hlt
      obtain ⟨y, hy, hym⟩ := owner_at Hg.out Hm.out Hl.out hlt
      have hco := hNp.o.cell hlt
      rw [← owner_get hil, hy] at hco
      have HY : Hid ((owners pts).getD i 0 = (y : Int)) := hy
      clear hy
      have hcb := hNp.b.cell hym
      have hfb := Row.frozen hNp.b y
      have hc5 := hNp.c.cell 5
      simp only [List.getElem?_cons_succ, List.getElem?_cons_zero] at hc5
      have hf5 := Row.frozen hNp.c 5
      have hdl := dis_le m ((owners pts).take i)
      by_cases hin : (y : Int) ∈ (owners pts).take i
      · have hnp1 := np_in hNp hil HY.out hin
        rw [decide_eq_true hin] at hcb
        clear hin hc5 hf5 hdl
        go_wp2_with fail
        go_roundw
        case rel => exact ⟨i + 1, by go_num, by omega, hnp1⟩
        case measure => simp [intOf]; omega
      · have hnp1 := np_new hNp hil HY.out hin hym (Nat.le_refl _) (by omega) hOl hCW hWQ
        rw [decide_eq_false hin] at hcb
        clear hin
        generalize dis m ((owners pts).take i) = dd at *
        go_wp2_with fail
        go_roundw
        case rel => exact ⟨i + 1, by go_num, by omega, hnp1⟩
        case measure => simp [intOf]; omega
    · have hin : i = n := by omega
      subst hin
      have htk : (owners pts).take i = owners pts := by rw [← Hlo.out]; exact List.take_length
      have hcc := hNp.c
      rw [htk] at hcc
      have hlaid := fun v0 v1 v2 v3 v4 v5 => np_laid hNp (Nat.le_refl _) (by omega) hOl hCW v0 v1 v2 v3 v4 v5
      obtain ⟨dd, hdd⟩ : ∃ dd, dd = dis m (owners pts) := ⟨_, rfl⟩
      rw [← hdd] at hcc
      have Hdd : Hid (dd = dis m (owners pts)) := hdd
      clear hdd
      have hc0 := hcc.cell 0
      have hc1 := hcc.cell 1
      have hc2 := hcc.cell 2
      have hc3 := hcc.cell 3
      have hc4 := hcc.cell 4
      have hc5 := hcc.cell 5
      have hr0 := hNp.r.cell 0
      have hr1 := hNp.r.cell 1
      have hr2 := hNp.r.cell 2
      have hr3 := hNp.r.cell 3
      have hr4 := hNp.r.cell 4
      have hr5 := hNp.r.cell 5
      simp only [List.getElem?_cons_succ, List.getElem?_cons_zero] at hc0 hc1 hc2 hc3 hc4 hc5 hr0 hr1 hr2 hr3 hr4 hr5
      have f0 := Row.frozen hNp.r 0
      have f1 := Row.frozen hNp.r 1
      have f2 := Row.frozen hNp.r 2
      have f3 := Row.frozen hNp.r 3
      have f4 := Row.frozen hNp.r 4
      have f5 := Row.frozen hNp.r 5
      go_wp2_with fail
      exact bodyPost_ret (v := circleV W (w.heap.size + 1) i (.slice na m mc) dd) (by simp [results, Trym.results24, go_sem, circleV, hr0, hr1, hr2, hr3, hr4, hr5]) rfl ⟨W, _, by rw [Hdd.out], hlaid _ _ _ _ _ _⟩
end Go.Proofs.Qxb6000402aMods
