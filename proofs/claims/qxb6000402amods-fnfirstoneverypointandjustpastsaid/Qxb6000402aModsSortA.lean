import Derived.Test.Qxb6000402aModsMem
import Derived.Laws.BitsLemmas
import Derived.Deep.MidRow
import Derived.Laws.BitsAllLaws
namespace Go.Proofs.Qxb6000402aMods
open Go.RowKit Mem Deal
set_option linter.unusedVariables false

/-- The blocks on which the sort works. -/
structure Sp (w wr : World) (C O P N n : Nat) (st : List Value) (pf of_ : Nat → Int) (G : Nat → Nat → Int) : Prop where
  c : Row wr C 30 st
  p : 0 < n → FRow wr P 37 .u64 n pf
  o : FRow wr O 39 .u16 n of_
  nx : NRow wr N G
  keep : Keeps [C, O, P] w wr

theorem Sp.next {w wr : World} {C O P N n : Nat} {st : List Value} {pf of_ : Nat → Int} {G : Nat → Nat → Int} (h : Sp w wr C O P N n st pf of_ G) (hN : w.heap.size ≤ N) (hC : C ≠ N) (hO : O ≠ N) (hP : 0 < n → P ≠ N)
    {o d v : Nat} (ho : o = d * 2048 + v) (hv : v < 2048) (x : Int) : Sp w (wr.setCell ⟨N, o, none⟩ (.int .i64 x)) C O P N n st pf of_ (upd2 G d v x) :=
  ⟨h.c.other _ _ hC, fun h0 => (h.p h0).other _ _ (hP h0), h.o.other _ _ hO, h.nx.set ho hv x, h.keep.set (.inr hN) _⟩
theorem Sp.kept {w wr wx : World} {C O P N n : Nat} {st : List Value} {pf of_ : Nat → Int} {G : Nat → Nat → Int} (h : Sp w wr C O P N n st pf of_ G) (hk : Keeps [] wr wx) : Sp w wx C O P N n st pf of_ G :=
  ⟨h.c.kept hk (by simp), fun h0 => (h.p h0).kept hk (by simp), h.o.kept hk (by simp), Row.kept h.nx hk (by simp), h.keep.trans (hk.more (by simp))⟩
theorem Sp.own_congr {w wr : World} {C O P N n : Nat} {st : List Value} {pf of_ of1 : Nat → Int} {G : Nat → Nat → Int} (h : Sp w wr C O P N n st pf of_ G) (e : ∀ j, j < n → of_ j = of1 j) : Sp w wr C O P N n st pf of1 G :=
  ⟨h.c, h.p, h.o.congr e, h.nx, h.keep⟩
theorem Sp.pt_congr {w wr : World} {C O P N n : Nat} {st : List Value} {pf pf1 of1 : Nat → Int} {G : Nat → Nat → Int} (h : Sp w wr C O P N n st pf of1 G) (e : ∀ j, j < n → pf j = pf1 j) : Sp w wr C O P N n st pf1 of1 G :=
  ⟨h.c, fun h0 => (h.p h0).congr e, h.o, h.nx, h.keep⟩
theorem Sp.drew {w wr : World} {C O P N n : Nat} {st : List Value} {pf of_ : Nat → Int} {G : Nat → Nat → Int} (h : Sp w wr C O P N n st pf of_ G) : Sp w wr.drew C O P N n st pf of_ G :=
  ⟨h.c, h.p, h.o, h.nx, h.keep.drew⟩

/-- The digit by its number. -/
def dg : Nat → Int → Nat
  | 0 => d0
  | 1 => d1
  | _ => d2
/-- The first k points are counted; of the next one the digits below d. -/
def Counted (pts : List Int) (k d : Nat) (G : Nat → Nat → Int) : Prop :=
  ∀ e v, e < 3 → v < 2048 → G e v = cf (dg e) (pts.take (if e < d then k + 1 else k)) v

theorem counted_zero (pts : List Int) : Counted pts 0 0 (fun _ _ => 0) := by
  intro e v _ _
  simp [cf, bk]
theorem counted_step {pts : List Int} {k d : Nat} {G : Nat → Nat → Int} (h : Hid (Counted pts k d G)) (hk : k < pts.length) (hd : d < 3) (hv : dg d (pts.getD k 0) < 2048) :
    Hid (Counted pts k (d + 1) (upd2 G d (dg d (pts.getD k 0)) (G d (dg d (pts.getD k 0)) + 1))) := by
  intro e v he hv2
  have h0 := h.out e v he hv2
  have h1 := h.out d _ hd hv
  rw [if_neg (Nat.lt_irrefl _)] at h1
  simp only [upd2]
  by_cases e1 : e = d
  · subst e1
    rw [if_neg (Nat.lt_irrefl _)] at h0
    rw [if_pos (show e < e + 1 by omega), cf_take_succ _ _ _ _ hk]
    by_cases e2 : v = dg e (pts.getD k 0)
    · rw [if_pos ⟨rfl, e2⟩, if_pos e2.symm, e2, h1]; simp
    · rw [if_neg (fun h => e2 h.2), if_neg (fun h => e2 h.symm), h0]; simp
  · rw [if_neg (fun h => e1 h.1), h0]
    congr 2
    by_cases e3 : e < d
    · rw [if_pos e3, if_pos (by omega)]
    · rw [if_neg e3, if_neg (by omega)]
theorem counted_done {pts : List Int} {k : Nat} {G : Nat → Nat → Int} (h : Hid (Counted pts k 3 G)) : Hid (Counted pts (k + 1) 0 G) := by
  intro e v he hv
  have := h.out e v he hv
  rw [if_pos he] at this
  rw [this]
  simp
theorem count_bd {pts : List Int} {k d n : Nat} {G : Nat → Nat → Int} (h : Hid (Counted pts k d G)) (Hl : Hid (pts.length = n)) {e v : Nat} (he : e < 3) (hv : v < 2048) : 0 ≤ G e v ∧ G e v ≤ n := by
  rw [h.out e v he hv]
  have h1 := cf_take_le (dg e) pts (if e < d then k + 1 else k) v
  have h2 : cf (dg e) pts v ≤ pts.length := by unfold cf bk; exact List.length_filter_le _ _
  rw [Hl.out] at h2
  omega
theorem mask11 (x : Int) (h0 : 0 ≤ x) (h1 : x < 18446744073709551616) : bits .and .u64 x 2047 = x % 2048 := by
  rw [u64_and x 2047 h0 h1 (by decide) (by decide)]
  have e : x.toNat &&& (2047 : Int).toNat = x.toNat % 2048 := Nat.and_two_pow_sub_one_eq_mod x.toNat 11
  rw [e]
  omega

theorem counted_at {pts : List Int} {k d v : Nat} {x : Int} {G : Nat → Nat → Int} (h : Hid (Counted pts k d G)) (hk : k < pts.length) (hd : d < 3) (hv : dg d (pts.getD k 0) = v) (hv2 : v < 2048) (hx : G d v = x) :
    Hid (Counted pts k (d + 1) (upd2 G d v (x + 1))) := by
  subst hv
  subst hx
  exact counted_step h hk hd hv2

/-- The counts are turned into places: all of the digits below d, and of digit d those below v. -/
def Started (pts : List Int) (d v : Nat) (G : Nat → Nat → Int) : Prop :=
  ∀ e u, e < 3 → u < 2048 → G e u = if e < d ∨ (e = d ∧ u < v) then (lo (dg e) pts u : Int) else (cf (dg e) pts u : Int)

theorem started_zero {pts : List Int} {n : Nat} {G : Nat → Nat → Int} (h : Hid (Counted pts n 0 G)) (hn : pts.length = n) : Hid (Started pts 0 0 G) := by
  intro e u he hu
  have := h.out e u he hu
  rw [if_neg (Nat.not_lt_zero e), ← hn, List.take_length] at this
  rw [this, if_neg (by omega)]
theorem started_step {pts : List Int} {d v : Nat} {G : Nat → Nat → Int} (h : Hid (Started pts d v G)) : Hid (Started pts d (v + 1) (upd2 G d v (lo (dg d) pts v))) := by
  intro e u he hu
  have h0 := h.out e u he hu
  simp only [upd2]
  by_cases e1 : e = d ∧ u = v
  · obtain ⟨rfl, rfl⟩ := e1
    rw [if_pos ⟨rfl, rfl⟩, if_pos (by omega)]
  · rw [if_neg e1, h0]
    by_cases e2 : e < d ∨ (e = d ∧ u < v)
    · rw [if_pos e2, if_pos (by omega)]
    · rw [if_neg e2, if_neg (by omega)]
theorem started_done {pts : List Int} {d : Nat} {G : Nat → Nat → Int} (h : Hid (Started pts d 2048 G)) : Hid (Started pts (d + 1) 0 G) := by
  intro e u he hu
  rw [h.out e u he hu]
  by_cases e2 : e < d ∨ (e = d ∧ u < 2048)
  · rw [if_pos e2, if_pos (by omega)]
  · rw [if_neg e2, if_neg (by omega)]
theorem info50 : (Trym.prog.info? 50).map (·.size) = some 2048 := by kernel_rfl
theorem und50 : Trym.prog.underlying 50 = some (.array 2048 3) := Trym.underlying50
theorem size3 : (sizeOf 3).run Trym.prog = fun w => .ok 1 w := by kernel_rfl
theorem und3 : Trym.prog.underlying 3 = some (.int .i64) := Trym.underlying3
theorem idx50 (A : List Value) (v : Nat) (hv : v < 2048) (x : Int) (hA : A[v]? = some (.int .i64 x)) (w : World) : (Instr.index 50 (.agg A.toArray) (.int .i64 v)).run Trym.prog w = .ok (.int .i64 x) w := by
  simp [Instr.index, asIntOf, run_underlying und50, part, isAgg, run_underlying und3, hA]
  intro h
  omega
theorem info36 : (Trym.prog.info? 36).map (fun i => (i.zero, i.size, i.bytes)) = some (some (.int .u32 0), 1, 4) := by kernel_rfl

theorem made_row {w w' : World} {n : Nat} {e : TypeId} {k : IntKind} (h : w'.ownsRow w.heap.size e 1 (.slice (some ⟨w.heap.size, 0, none⟩) n n) n (madeCells (Value.int k 0).cells (n * 1)).toList) : FRow w' w.heap.size e k n (fun _ => 0) := by
  obtain ⟨hl, h | ⟨g, cap, cur, hv, _, hg, _, _, hs, ht⟩⟩ := h
  · cases h.1
  · simp only [Value.slice.injEq, Option.some.injEq, Addr.mk.injEq, true_and, and_true] at hv
    obtain ⟨rfl, rfl⟩ := hv
    have e1 : cur.toList = cells k n (fun _ => 0) := by
      have e2 : (madeCells (Value.int k 0).cells (n * 1)).toList = cells k n (fun _ => 0) := by
        show (madeCells #[Value.int k 0] (n * 1)).toList = _
        rw [toList_madeCells_one]
        unfold cells
        rw [List.map_const']
        simp
      rw [← e2, ← ht, List.take_of_length_le (by simp; omega)]
    unfold FRow Row
    rw [← e1]
    simpa using hg
theorem keeps_grown {w w' : World} (h : w.grownBy w' none) : Keeps [] w w' := ⟨h.os, h.tape, h.output, h.size, fun k hk _ => h.block k hk (by simp)⟩

/-- Where the next point of digit e0 goes, k points of l having been dealt; of the later digits: where the first goes. -/
def Nx (e0 : Nat) (l : List Int) (k : Nat) (pts : List Int) (G : Nat → Nat → Int) : Prop :=
  (∀ u, u < 2048 → G e0 u = ((lo (dg e0) l u + cf (dg e0) (l.take k) u : Nat) : Int)) ∧ ∀ e u, e0 < e → e < 3 → u < 2048 → G e u = (lo (dg e) pts u : Int)

theorem nx_zero {pts : List Int} {G : Nat → Nat → Int} (h : Hid (Started pts 3 0 G)) : Hid (Nx 0 pts 0 pts G) := by
  refine ⟨fun u hu => ?_, fun e u _ he hu => ?_⟩
  · rw [h.out 0 u (by omega) hu, if_pos (by omega)]; simp [cf, bk]
  · rw [h.out e u he hu, if_pos (by omega)]
theorem nx_step {e0 : Nat} {l pts : List Int} {k v X : Nat} {G : Nat → Nat → Int} (h : Hid (Nx e0 l k pts G)) (hk : k < l.length) (hv : dg e0 (l.getD k 0) = v) (hv2 : v < 2048) (hx : G e0 v = (X : Int)) : Hid (Nx e0 l (k + 1) pts (upd2 G e0 v ((X : Int) + 1))) := by
  refine ⟨fun u hu => ?_, fun e u h1 he hu => ?_⟩
  · have h0 := h.out.1 u hu
    rw [cf_take_succ _ _ _ _ hk, hv]
    show (if e0 = e0 ∧ u = v then (X : Int) + 1 else G e0 u) = _
    by_cases e : u = v
    · subst e
      rw [if_pos ⟨rfl, rfl⟩, if_pos rfl]
      rw [hx] at h0
      omega
    · rw [if_neg (fun h => e h.2), if_neg (fun h => e h.symm), h0]; simp
  · have := h.out.2 e u h1 he hu
    simp only [upd2]
    rw [if_neg (by omega), this]
theorem nx_next {e0 : Nat} {l l' pts : List Int} {k : Nat} {G : Nat → Nat → Int} (h : Hid (Nx e0 l k pts G)) (he : e0 + 1 < 3) (hlo : ∀ u, lo (dg (e0 + 1)) l' u = lo (dg (e0 + 1)) pts u) : Hid (Nx (e0 + 1) l' 0 pts G) := by
  refine ⟨fun u hu => ?_, fun e u h1 h2 hu => h.out.2 e u (by omega) h2 hu⟩
  rw [h.out.2 (e0 + 1) u (by omega) he hu, hlo u]; simp [cf, bk]
/-- The place of the next point. -/
theorem nx_place {e0 : Nat} {l pts : List Int} {k v : Nat} {G : Nat → Nat → Int} (h : Hid (Nx e0 l k pts G)) (hk : k < l.length) (hv : dg e0 (l.getD k 0) = v) (hv2 : v < 2048) :
    ∃ X : Nat, G e0 v = (X : Int) ∧ X < l.length ∧ X = lo (dg e0) l (dg e0 (l.getD k 0)) + cf (dg e0) (l.take k) (dg e0 (l.getD k 0)) := by
  refine ⟨_, h.out.1 v hv2, ?_, by rw [hv]⟩
  have := place_lt (f := dg e0) hk
  rw [hv] at this
  exact this
theorem wrap16 (p : Int) : IntKind.u16.wrap p = own p := by rw [IntKind.wrap_u16]; rfl
/-- One point is laid at its place, and the place moved on. -/
theorem Sp.deal {w wr : World} {C O P N n W X o d v : Nat} {st : List Value} {pf of1 wf : Nat → Int} {G : Nat → Nat → Int} {a b x : Int} (h : Sp w wr C O P N n st pf of1 G) (hW : FRow wr W 36 .u32 n wf)
    (hN : w.heap.size ≤ N) (hC : C < N) (hO : O < N) (hP : 0 < n → P < N ∧ P ≠ C ∧ P ≠ O) (hCO : C ≠ O) (hNW : N < W) (ho : o = d * 2048 + v) (hv : v < 2048) :
    Sp w (((wr.setCell ⟨W, X, none⟩ (.int .u32 a)).setCell ⟨O, X, none⟩ (.int .u16 b)).setCell ⟨N, o, none⟩ (.int .i64 x)).drew C O P N n st pf (upd of1 X b) (upd2 G d v x) ∧
      FRow (((wr.setCell ⟨W, X, none⟩ (.int .u32 a)).setCell ⟨O, X, none⟩ (.int .u16 b)).setCell ⟨N, o, none⟩ (.int .i64 x)).drew W 36 .u32 n (upd wf X a) := by
  refine ⟨⟨?_, fun h0 => ?_, ?_, ?_, ?_⟩, ?_⟩
  · exact ((h.c.other _ _ (by simp; omega)).other _ _ (by simpa using hCO)).other _ _ (by simp; omega)
  · have := hP h0
    exact (((h.p h0).other _ _ (by simp; omega)).other _ _ (by simpa using this.2.2)).other _ _ (by simp; omega)
  · exact Row.other (FRow.set (h.o.other _ _ (by simp; omega)) X b) _ _ (by simp; omega)
  · exact NRow.set (Row.other (Row.other h.nx _ _ (by simp; omega)) _ _ (by simp; omega)) ho hv x
  · exact (((h.keep.set (.inr (by simp; omega)) _).set (.inl (by simp)) _).set (.inr hN) _).drew
  · exact Row.other (Row.other (FRow.set hW X a) _ _ (by simp; omega)) _ _ (by simp; omega)
theorem dealt_full {f : Int → Nat} {l : List Int} {n : Nat} {h : Int → Int} {arr : Nat → Int} (hd : Hid (Dealt f 2048 l n h arr)) (hn : l.length = n) (hl : (deal f 2048 l).length = n) : ∀ j, j < n → arr j = h ((deal f 2048 l).getD j 0) := by
  have := hd.out
  rw [← hn] at this
  intro j hj
  exact dealt_done this j (by omega)

theorem mask11u (x : Int) (h0 : 0 ≤ x) (h1 : x < 4294967296) : bits .and .u32 x 2047 = x % 2048 := by
  rw [u32_and x 2047 h0 h1 (by decide) (by decide)]
  have e : x.toNat &&& (2047 : Int).toNat = x.toNat % 2048 := Nat.and_two_pow_sub_one_eq_mod x.toNat 11
  rw [e]
  omega
theorem or_low (a b : Int) (h0 : 0 ≤ a) (h1 : a < 4294967296) (h2 : 0 ≤ b) (h3 : b < 4294967296) : bits .or .u64 (a * 4294967296) b = a * 4294967296 + b := by
  rw [u64_or (a * 4294967296) b (by omega) (by omega) h2 (by omega)]
  obtain ⟨A, rfl⟩ := Int.eq_ofNat_of_zero_le h0
  obtain ⟨B, rfl⟩ := Int.eq_ofNat_of_zero_le h2
  have e := Nat.two_pow_add_eq_or_of_lt (i := 32) (b := B) (by omega) A
  have e1 : ((A : Int) * 4294967296).toNat = 2 ^ 32 * A := by omega
  rw [e1, Int.toNat_natCast, ← e]
  omega
set_option maxHeartbeats 400000 in
theorem point_any (a b : Int) (w : World) (h0 : 0 ≤ a) (h1 : a < 4294967296) (h2 : 0 ≤ b) (h3 : b < 65536) :
    Calls Trym.prog 31 #[.int .u32 a, .int .i64 b] w fun e w' => e = .returned (.int .u64 (a * 4294967296 + b)) ∧ w' = w := by
  have hor := or_low a b h0 h1 h2 (by omega)
  go_enter Trym.func31, Trym.ntmps31
  go_wp2
  go_ret
  exact ⟨rfl, rfl⟩
/-- A point is laid back among the points. -/
theorem Sp.back {w wr : World} {C O P N n W X o d v : Nat} {st : List Value} {pf of1 wf : Nat → Int} {G : Nat → Nat → Int} {a x : Int} (h : Sp w wr C O P N n st pf of1 G) (hW : FRow wr W 36 .u32 n wf)
    (hN : w.heap.size ≤ N) (hC : C < N) (hO : O < N) (hP : P < N ∧ P ≠ C ∧ P ≠ O) (hNW : N < W) (ho : o = d * 2048 + v) (hv : v < 2048) :
    Sp w ((wr.setCell ⟨P, X, none⟩ (.int .u64 a)).setCell ⟨N, o, none⟩ (.int .i64 x)).drew C O P N n st (upd pf X a) of1 (upd2 G d v x) ∧
      FRow ((wr.setCell ⟨P, X, none⟩ (.int .u64 a)).setCell ⟨N, o, none⟩ (.int .i64 x)).drew W 36 .u32 n wf := by
  refine ⟨⟨?_, fun h0 => ?_, ?_, ?_, ?_⟩, ?_⟩
  · exact (h.c.other _ _ (by simp; omega)).other _ _ (by simp; omega)
  · exact Row.other (FRow.set (h.p h0) X a) _ _ (by simp; omega)
  · exact Row.other (Row.other h.o _ _ (by simp; omega)) _ _ (by simp; omega)
  · exact NRow.set (Row.other h.nx _ _ (by simp; omega)) ho hv x
  · exact ((h.keep.set (.inl (by simp)) _).set (.inr hN) _).drew
  · exact Row.other (Row.other hW _ _ (by simp; omega)) _ _ (by simp; omega)
/-- The field 'wide' is laid. -/
theorem Sp.wide {w wr : World} {C O P N n : Nat} {v0 v1 v2 v3 v4 v5 : Value} {pf of1 : Nat → Int} {G : Nat → Nat → Int} (h : Sp w wr C O P N n [v0, v1, v2, v3, v4, v5] pf of1 G) (x : Value) (hCN : C ≠ N) (hCO : C ≠ O) (hP : 0 < n → P ≠ C) :
    Sp w (wr.setCell ⟨C, 0, none⟩ x) C O P N n [x, v1, v2, v3, v4, v5] pf of1 G :=
  ⟨Row.set h.c 0 x, fun h0 => (h.p h0).other _ _ (hP h0), h.o.other _ _ (fun e => hCO e.symm), Row.other h.nx _ _ (fun e => hCN e.symm), h.keep.set (.inl (by simp)) _⟩
theorem full_l1 {pts : List Int} {n : Nat} {h : Int → Int} {arr : Nat → Int} (hd : Hid (Dealt d0 2048 pts n h arr)) (hn : pts.length = n) : ∀ j, j < n → arr j = h ((l1 pts).getD j 0) :=
  dealt_full hd hn (by have := len_l1 pts; unfold l1 at this; rw [this]; exact hn)
theorem full_l2 {pts : List Int} {n : Nat} {arr : Nat → Int} (hd : Hid (Dealt d1 2048 (l1 pts) n id arr)) (hn : pts.length = n) : ∀ j, j < n → arr j = (l2 pts).getD j 0 := by
  intro j hj
  have h := dealt_full hd (by rw [len_l1]; exact hn) (by have := len_l2 pts; unfold l2 at this; rw [this]; exact hn) j hj
  rw [id_eq] at h
  rw [h]
  rfl
theorem full_l3 {pts : List Int} {n : Nat} {h : Int → Int} {arr : Nat → Int} (hg : ∀ p ∈ pts, Deal.Good p) (hd : Hid (Dealt d2 2048 (l2 pts) n h arr)) (hn : pts.length = n) : ∀ j, j < n → arr j = h ((l3 pts).getD j 0) :=
  dealt_full hd (by rw [len_l2]; exact hn) (by have := len_l3 hg; unfold l3 at this; rw [this]; exact hn)
theorem lo_l1 (g : Int → Nat) (pts : List Int) (u : Nat) : lo g (l1 pts) u = lo g pts u := lo_deal (fun a _ => d0_lt a) u
theorem lo_l2 (g : Int → Nat) (pts : List Int) (u : Nat) : lo g (l2 pts) u = lo g pts u := (lo_deal (fun a _ => d1_lt a) u).trans (lo_l1 g pts u)
theorem nx_l1 {pts : List Int} {k : Nat} {G : Nat → Nat → Int} (h : Hid (Nx 0 pts k pts G)) : Hid (Nx 1 (l1 pts) 0 pts G) := nx_next h (by omega) (fun u => lo_l1 _ pts u)
theorem nx_l2 {pts : List Int} {k : Nat} {G : Nat → Nat → Int} (h : Hid (Nx 1 (l1 pts) k pts G)) : Hid (Nx 2 (l2 pts) 0 pts G) := nx_next h (by omega) (fun u => lo_l2 _ pts u)
/-- What the sort leaves. -/
def Sorted' (w w' : World) (C O P n : Nat) (nv : Value) (pts : List Int) : Prop :=
  ∃ W, w.heap.size ≤ W ∧ Row w' C 30 [.slice (some ⟨W, 0, none⟩) n n, .slice none 0 0, .slice none 0 0, .slice (some ⟨O, 0, none⟩) n n, nv, .int .i64 0] ∧
    FRow w' W 36 .u32 n (fun i => pos ((l3 pts).getD i 0)) ∧ FRow w' O 39 .u16 n (fun i => own ((l3 pts).getD i 0)) ∧ Keeps [C, O, P] w w'
theorem good_at {l : List Int} {j : Nat} (h : ∀ p ∈ l, Deal.Good p) (hj : j < l.length) : Deal.Good (l.getD j 0) := by
  have : l.getD j 0 = l[j] := by simp [List.getD, hj]
  rw [this]
  exact h _ (List.getElem_mem hj)

theorem dealt_at {f : Int → Nat} {K : Nat} {l : List Int} {k X : Nat} {h : Int → Int} {arr : Nat → Int} {x : Int} (hd : Hid (Dealt f K l k h arr)) (hk : k < l.length) (hX : Hid (X = lo f l (f (l.getD k 0)) + cf f (l.take k) (f (l.getD k 0)))) (hx : x = h (l.getD k 0)) : Hid (Dealt f K l (k + 1) h (upd arr X x)) := by
  rw [hX.out]
  exact dealt_step hd.out hk x hx

end Go.Proofs.Qxb6000402aMods
