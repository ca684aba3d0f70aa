import Derived.Test.Qxb6000402aModsHelp
import Derived.Test.Qxb6000402aModsMsort
namespace Go.Proofs.Qxb6000402aMods
open Go.RowKit Mem Deal
set_option linter.unusedVariables false

/-- What zzKey reads off a point. -/
def keyOf (b : Bool) (p : Int) : Int := if b then p % 4294967296 else p / 4294967296

set_option maxHeartbeats 400000 in
theorem key_at (b : Bool) (p k : Int) (w : World) (h0 : 0 ≤ p) (h1 : p < 18446744073709551616) (hk : Hid (keyOf b p = k)) :
    Calls Trym.prog 25 #[.int .u64 p, .bool b] w fun e w' => e = .returned (.int .u64 k) ∧ w' = w := by
  have hm := mask32 p h0 h1
  have hr1 : (0 : Int) ≤ p % 4294967296 ∧ p % 4294967296 < 4294967296 := by omega
  have hr2 : (0 : Int) ≤ p / 4294967296 ∧ p / 4294967296 < 4294967296 := by omega
  obtain ⟨hr3, hr4⟩ := hr1
  obtain ⟨hr5, hr6⟩ := hr2
  cases b
  · have e : p / 4294967296 = k := hk.out
    clear hk
    go_enter Trym.func25, Trym.ntmps25
    go_wp2
    go_ret
    exact ⟨rfl, rfl⟩
  · have e : p % 4294967296 = k := hk.out
    clear hk
    go_enter Trym.func25, Trym.ntmps25
    go_wp2
    go_ret
    exact ⟨rfl, rfl⟩

def Bd (n : Nat) (g : Nat → Int) : Prop := ∀ i, i < n → 0 ≤ g i ∧ g i < 18446744073709551616
theorem Bd.upd {n : Nat} {g : Nat → Int} (h : Bd n g) (k : Nat) {x : Int} (h0 : 0 ≤ x) (h1 : x < 18446744073709551616) : Bd n (upd g k x) := by
  intro i hi
  simp only [Deal.upd]
  split
  · exact ⟨h0, h1⟩
  · exact h i hi

/-- The inner loop's tale. -/
structure Mk (key : Int → Int) (lo mid hi i j k : Nat) (gs gb gb0 : Nat → Int) : Prop where
  li : lo ≤ i
  im : i ≤ mid
  mj : mid ≤ j
  jh : j ≤ hi
  sum : k + mid = i + j
  old : ∀ t, t < lo → gb t = gb0 t
  eq : seg gb lo k ++ mg key (hi - k) (seg gs i mid) (seg gs j hi) = mg key (hi - lo) (seg gs lo mid) (seg gs mid hi)

theorem mk_start {key : Int → Int} {lo mid hi : Nat} {gs gb : Nat → Int} (h1 : lo ≤ mid) (h2 : mid ≤ hi) : Mk key lo mid hi lo mid lo gs gb gb :=
  ⟨Nat.le_refl _, h1, Nat.le_refl _, h2, by omega, fun _ _ => rfl, by rw [seg_nil gb (Nat.le_refl lo)]; rfl⟩

theorem mk_left {key : Int → Int} {lo mid hi i j k : Nat} {gs gb gb0 : Nat → Int} (h : Mk key lo mid hi i j k gs gb gb0) (hk : k < hi) (hi' : i < mid) (hc : hi ≤ j ∨ key (gs i) ≤ key (gs j)) :
    Mk key lo mid hi (i + 1) j (k + 1) gs (upd gb k (gs i)) gb0 := by
  have h1 := h.li
  have h2 := h.im
  have h3 := h.mj
  have h4 := h.jh
  have h5 := h.sum
  refine ⟨by omega, by omega, h3, h4, by omega, fun t ht => ?_, ?_⟩
  · simp only [upd]; rw [if_neg (by omega)]; exact h.old t ht
  · rw [← h.eq, seg_snoc _ (show lo ≤ k by omega), seg_upd gb k (gs i) (Nat.le_refl k), show upd gb k (gs i) k = gs i by simp [upd], List.append_assoc]
    congr 1
    rw [show hi - k = (hi - (k + 1)) + 1 by omega, seg_cons gs hi']
    by_cases hj : j < hi
    · rw [seg_cons gs hj]
      simp only [mg]
      rw [if_pos (by omega)]
      rfl
    · rw [seg_nil gs (show hi ≤ j by omega)]
      simp only [mg]
      rfl
theorem mk_right {key : Int → Int} {lo mid hi i j k : Nat} {gs gb gb0 : Nat → Int} (h : Mk key lo mid hi i j k gs gb gb0) (hk : k < hi) (hj : j < hi) (hc : mid ≤ i ∨ key (gs j) < key (gs i)) :
    Mk key lo mid hi i (j + 1) (k + 1) gs (upd gb k (gs j)) gb0 := by
  have h1 := h.li
  have h2 := h.im
  have h3 := h.mj
  have h4 := h.jh
  have h5 := h.sum
  refine ⟨by omega, by omega, by omega, by omega, by omega, fun t ht => ?_, ?_⟩
  · simp only [upd]; rw [if_neg (by omega)]; exact h.old t ht
  · rw [← h.eq, seg_snoc _ (show lo ≤ k by omega), seg_upd gb k (gs j) (Nat.le_refl k), show upd gb k (gs j) k = gs j by simp [upd], List.append_assoc]
    congr 1
    rw [show hi - k = (hi - (k + 1)) + 1 by omega, seg_cons gs hj]
    by_cases hi' : i < mid
    · rw [seg_cons gs hi']
      simp only [mg]
      rw [if_neg (by omega)]
      rfl
    · rw [seg_nil gs (show mid ≤ i by omega)]
      simp only [mg]
      rfl

/-- One pass: the blocks below t are merged. -/
theorem mk_end {key : Int → Int} {w n t lo mid hi i j k : Nat} {gs gb gb0 : Nat → Int} (h : Mk key lo mid hi i j k gs gb gb0) (hk : ¬ k < hi) (hl : lo = t * (2 * w)) (hln : lo < n) (hm : mid = min (lo + w) n) (hh : hi = min (lo + 2 * w) n)
    (hM : Merged key w n gs gb0 t) : Merged key w n gs gb (t + 1) := by
  have h5 := h.sum
  have h2 := h.im
  have h4 := h.jh
  have e : k = hi := by omega
  intro s hs
  by_cases hst : s < t
  · rw [← hM s hst]
    apply seg_congr
    intro x h1 h2
    apply h.old
    have : s * (2 * w) + 2 * w ≤ t * (2 * w) := by
      have := Nat.mul_le_mul_right (2 * w) (show s + 1 ≤ t by omega)
      rw [Nat.add_mul, Nat.one_mul] at this
      exact this
    omega
  · have est : s = t := by omega
    subst est
    rw [← hl, ← hm, ← hh]
    have := h.eq
    rw [e, Nat.sub_self] at this
    simp only [mg, List.append_nil] at this
    exact this

structure St (w wr : World) (A B n : Nat) (gs gb : Nat → Int) : Prop where
  a : FRow wr A 37 .u64 n gs
  b : FRow wr B 37 .u64 n gb
  keep : Keeps [] w wr
  ha : w.heap.size ≤ A
  hb : w.heap.size ≤ B
  ne : A ≠ B
theorem St.swap {w wr : World} {A B n : Nat} {gs gb : Nat → Int} (h : St w wr A B n gs gb) : St w wr B A n gb gs := ⟨h.b, h.a, h.keep, h.hb, h.ha, h.ne.symm⟩
theorem St.drewN {w wr : World} {A B n : Nat} {gs gb : Nat → Int} (h : St w wr A B n gs gb) (k : Nat) : St w (wr.drewN k) A B n gs gb := ⟨h.a, h.b, ⟨h.keep.os, h.keep.tape, h.keep.output, h.keep.size, h.keep.block⟩, h.ha, h.hb, h.ne⟩
theorem St.set {w wr : World} {A B n : Nat} {gs gb : Nat → Int} (h : St w wr A B n gs gb) (k : Nat) (x : Int) : St w (wr.setCell ⟨B, k, none⟩ (.int .u64 x)) A B n gs (upd gb k x) :=
  ⟨Row.other h.a _ _ h.ne, h.b.set k x, h.keep.set (p := ⟨B, k, none⟩) (.inr h.hb) _, h.ha, h.hb, h.ne⟩

set_option maxRecDepth 100000 in
set_option maxHeartbeats 4000000 in
theorem msort_any (b : Bool) (pa : Option Addr) (n nc : Nat) (pts : List Int) (w : World) (hn : n ≤ 131072) (Hp : Hid (PtsIn w pa n pts)) (Hl : Hid (pts.length = n)) (Hw : Hid (∀ p ∈ pts, 0 ≤ p ∧ p < 18446744073709551616)) :
    Calls Trym.prog 17 #[.slice pa n nc, .bool b] w fun e w' => ∃ S g, e = .returned (.slice (some ⟨S, 0, none⟩) n n) ∧ FRow w' S 37 .u64 n g ∧ Hid (Srt (keyOf b) pts (seg g 0 n)) ∧ Hid (Bd n g) ∧ Keeps [] w w' ∧ w.heap.size ≤ S := by
  obtain ⟨i0, hi0, hz0, hz1, hz2⟩ := info_parts info37
  go_enter Trym.func17, Trym.ntmps17
  go_wp2_with (at_make; refine wpList_make_full _ rfl _ _ 23 rfl w.heap.size 37 i0 (.int .u64 0) 1 Trym.underlying23 hi0 hz0 hz1 _ _ _ _ n rfl rfl rfl rfl (by rw [hz2]; omega) (by unfold maxLen; omega) (Nat.le_refl _) ?_; intro w1 hown hgrow; have hrow := made_row hown; have hk := keeps_grown hgrow; clear hown hgrow)
  go_loopw [7] (fun iv wr => ∃ (i : Nat) (g : Nat → Int), iv = .int .i64 i ∧ i ≤ n ∧ FRow wr w.heap.size 37 .u64 n g ∧ Hid (∀ j, j < i → g j = pts.getD j 0) ∧ Keeps [] w wr) (fun iv _ => n - (intOf iv).toNat)
  case atStart => exact ⟨0, _, rfl, by omega, hrow, (fun j hj => by omega), hk⟩
  case round =>
    clear hrow hk
    obtain ⟨i, g, rfl, hi, hrow, hg, hk⟩ := hrel
    by_cases hlt : i < n
    · obtain ⟨bb, off, hx, hb, hc⟩ := Hp.out (by omega)
      subst hx
      have hci : wr.cell? ⟨bb, off + i, none⟩ = some (.int .u64 (pts.getD i 0)) := (World.cell?_of_block (a := ⟨bb, off + i, none⟩) (hk.block bb hb (by simp))).trans (hc i hlt)
      obtain ⟨y, hy⟩ : ∃ y, y = pts.getD i 0 := ⟨_, rfl⟩
      rw [← hy] at hci
      have HY : Hid (y = pts.getD i 0) := hy
      have hco := hrow.cell hlt
      have hfo := Row.frozen hrow i
      generalize hz : g i = z at hco
      clear hz hy hc
      have hrow1 := hrow.set i y
      have hk1 := hk.set (p := ⟨w.heap.size, i, none⟩) (.inr (Nat.le_refl _)) (.int .u64 y)
      have hg1 : Hid (∀ j, j < i + 1 → upd g i y j = pts.getD j 0) := by
        intro j hj
        simp only [upd]
        by_cases e : j = i
        · rw [if_pos e, e]; exact HY.out
        · rw [if_neg e]; exact hg.out j (by omega)
      go_wp2_with fail
      go_roundw
      case rel => exact ⟨i + 1, _, by go_num, by omega, hrow1, hg1, hk1⟩
      case measure => simp [intOf]; omega
    · have e : i = n := by omega
      subst e
      have hsrc := hrow.congr hg.out
      have Hbd : Hid (Bd i (fun j => pts.getD j 0)) := by
        intro j hj
        show 0 ≤ pts.getD j 0 ∧ pts.getD j 0 < _
        have hj2 : j < pts.length := by rw [Hl.out]; exact hj
        rw [show pts.getD j 0 = pts[j] by simp [List.getD, hj2]]
        exact Hw.out _ (List.getElem_mem hj2)
      clear hrow hg hlt hi
      go_wp2_with (at_make; refine wpList_make_full _ rfl _ _ 23 rfl wr.heap.size 37 i0 (.int .u64 0) 1 Trym.underlying23 hi0 hz0 hz1 _ _ _ _ i rfl rfl rfl rfl (by rw [hz2]; omega) (by unfold maxLen; omega) (Nat.le_refl _) ?_; intro w2 hown hgrow; have hrow := made_row hown; have hk2 := keeps_grown hgrow; clear hown hgrow)
      have hst : St w w2 w.heap.size wr.heap.size i (fun j => pts.getD j 0) (fun _ => 0) := ⟨Row.kept hsrc hk2 (by simp), hrow, hk.trans hk2, Nat.le_refl _, hk.size, by have := Row.lt hsrc; omega⟩
      clear hrow hk2 hsrc
      go_loopw [6, 8, 9] (fun av bv dv wr => ∃ (A B wd : Nat) (gs gb : Nat → Int), av = .slice (some ⟨A, 0, none⟩) i i ∧ bv = .slice (some ⟨B, 0, none⟩) i i ∧ dv = .int .i64 wd ∧ 1 ≤ wd ∧ wd ≤ 262144 ∧ St w wr A B i gs gb ∧ Hid (Bd i gs) ∧ Hid (Bd i gb) ∧ Hid (Blk (keyOf b) wd i (fun j => pts.getD j 0) gs)) (fun _ _ dv _ => i - (intOf dv).toNat)
      case atStart => exact ⟨_, _, 1, _, _, rfl, rfl, rfl, by omega, by omega, hst, Hbd, (fun _ _ => ⟨by simp, by simp⟩), blk_one _ _ _⟩
      case round =>
        clear hst
        obtain ⟨A, B, wd, gs, gb, rfl, rfl, rfl, hw1, hw2, hst, hbd, hbb, hblk⟩ := hrel
        by_cases hlt : wd < i
        · go_wp2_with fail
          go_loopw [10] (fun lv wr => ∃ (t lo : Nat) (gb : Nat → Int), lv = .int .i64 lo ∧ lo ≤ 524288 ∧ Hid (lo = t * (2 * wd)) ∧ St w wr A B i gs gb ∧ Hid (Bd i gb) ∧ Hid (Merged (keyOf b) wd i gs gb t)) (fun lv _ => i - (intOf lv).toNat)
          case atStart => exact ⟨0, 0, _, rfl, by omega, (by show _ = _; rw [Nat.zero_mul]), hst, hbb, (fun s hs => absurd hs (by omega))⟩
          case round =>
            clear hst hbb
            obtain ⟨t, lo, gb0, rfl, hlo, hlt0, hst, hbb, hM⟩ := hrel
            by_cases hln : lo < i
            · obtain ⟨mid, hmid⟩ : ∃ mid, mid = min (lo + wd) i := ⟨_, rfl⟩
              obtain ⟨hi, hhi⟩ : ∃ hi, hi = min (lo + 2 * wd) i := ⟨_, rfl⟩
              have Hmid : Hid (mid = min (lo + wd) i) := hmid
              have Hhi : Hid (hi = min (lo + 2 * wd) i) := hhi
              have hmh : mid ≤ hi := by omega
              have hlm : lo ≤ mid := by omega
              have hhn : hi ≤ i := by omega
              clear hmid hhi
              go_upto_if 51 with fail
              go_cut [11] (fun mv wx => mv = .int .i64 mid ∧ wx = wr)
              case first =>
                by_cases hc : i < lo + wd
                · have e : Hid (mid = i) := by show _ = _; rw [Hmid.out]; omega
                  go_wp2_with fail
                  go_meet
                  case rel => exact ⟨by rw [e.out], rfl⟩
                · have e : Hid (mid = lo + wd) := by show _ = _; rw [Hmid.out]; omega
                  go_wp2_with fail
                  go_meet
                  case rel => exact ⟨by rw [e.out]; go_num, rfl⟩
              case rest =>
              obtain ⟨rfl, rfl⟩ := hcut
              go_upto_if 59 with fail
              go_cut [12] (fun mv wx => mv = .int .i64 hi ∧ wx = wc)
              case first =>
                by_cases hc : i < lo + 2 * wd
                · have e : Hid (hi = i) := by show _ = _; rw [Hhi.out]; omega
                  go_wp2_with fail
                  go_meet
                  case rel => exact ⟨by rw [e.out], rfl⟩
                · have e : Hid (hi = lo + 2 * wd) := by show _ = _; rw [Hhi.out]; omega
                  go_wp2_with fail
                  go_meet
                  case rel => exact ⟨by rw [e.out]; go_num, rfl⟩
              case rest =>
              obtain ⟨rfl, rfl⟩ := hcut
              go_wp2_with fail
              go_loopw [13, 14, 15] (fun iv jv kv wr => ∃ (x y k : Nat) (gb : Nat → Int), iv = .int .i64 x ∧ jv = .int .i64 y ∧ kv = .int .i64 k ∧ x ≤ mid ∧ y ≤ hi ∧ k + mid = x + y ∧ k ≤ hi ∧ St w wr A B i gs gb ∧ Hid (Bd i gb) ∧ Hid (Mk (keyOf b) lo mid hi x y k gs gb gb0)) (fun _ _ kv _ => hi - (intOf kv).toNat)
              case atStart => exact ⟨lo, mid, lo, gb0, rfl, rfl, rfl, by omega, by omega, by omega, by omega, hst, hbb, mk_start hlm hmh⟩
              case round =>
                clear hst hbb
                obtain ⟨x, y, k, gb, rfl, rfl, rfl, hxm, hyh, hsum, hkh, hst, hbb, hMk⟩ := hrel
                by_cases hk1 : k < hi
                · have hco := hst.b.cell (j := k) (by omega)
                  have hfo := Row.frozen hst.b k
                  generalize hz : gb k = z at hco
                  clear hz
                  by_cases hyl : y < hi
                  · have hcy := hst.a.cell (j := y) (by omega)
                    obtain ⟨hq0, hq1⟩ := hbd.out y (by omega)
                    have hd1 : decide ((hi : Int) ≤ (y : Int)) = false := decide_eq_false (by omega)
                    have hd2 : decide (hi ≤ y) = false := decide_eq_false (by omega)
                    by_cases hxl : x < mid
                    · have hcx := hst.a.cell (j := x) (by omega)
                      obtain ⟨hp0, hp1⟩ := hbd.out x (by omega)
                      have hd3 : decide ((x : Int) < (mid : Int)) = true := decide_eq_true (by omega)
                      have hd4 : decide (x < mid) = true := decide_eq_true (by omega)
                      by_cases hle : keyOf b (gs x) ≤ keyOf b (gs y)
                      · have hM1 : Hid _ := mk_left hMk.out hk1 hxl (.inr hle)
                        have hs1 := hst.set k (gs x)
                        have hb1 : Hid (Bd i (upd gb k (gs x))) := hbb.out.upd k hp0 hp1
                        generalize gs x = px at hcx hM1 hs1 hb1 hp0 hp1 hle
                        generalize gs y = py at hcy hM1 hs1 hb1 hq0 hq1 hle
                        obtain ⟨kx, Hkx⟩ : ∃ kx, Hid (keyOf b px = kx) := ⟨_, rfl⟩
                        obtain ⟨ky, Hky⟩ : ∃ ky, Hid (keyOf b py = ky) := ⟨_, rfl⟩
                        rw [Hkx.out, Hky.out] at hle
                        have hd : decide (kx ≤ ky) = true := decide_eq_true hle
                        go_wp2_with fail
                        go_big_quiet (first | (go_at_call_of 25 (Value.int IntKind.u64 px); exact Calls.quiet_of_same (key_at b px kx _ hp0 hp1 Hkx)) | (go_at_call_of 25 (Value.int IntKind.u64 py); exact Calls.quiet_of_same (key_at b py ky _ hq0 hq1 Hky)))
                        go_wp2_with fail
                        go_roundw
                        case rel => exact ⟨x + 1, y, k + 1, _, by go_num, rfl, by go_num, by omega, by omega, by omega, by omega, hs1.drewN _, hb1, hM1⟩
                        case measure => simp [intOf]; omega
                      · have hM1 : Hid _ := mk_right hMk.out hk1 hyl (.inr (by omega))
                        have hs1 := hst.set k (gs y)
                        have hb1 : Hid (Bd i (upd gb k (gs y))) := hbb.out.upd k hq0 hq1
                        generalize gs x = px at hcx hM1 hs1 hb1 hp0 hp1 hle
                        generalize gs y = py at hcy hM1 hs1 hb1 hq0 hq1 hle
                        obtain ⟨kx, Hkx⟩ : ∃ kx, Hid (keyOf b px = kx) := ⟨_, rfl⟩
                        obtain ⟨ky, Hky⟩ : ∃ ky, Hid (keyOf b py = ky) := ⟨_, rfl⟩
                        rw [Hkx.out, Hky.out] at hle
                        have hd : decide (kx ≤ ky) = false := decide_eq_false hle
                        go_wp2_with fail
                        go_big_quiet (first | (go_at_call_of 25 (Value.int IntKind.u64 px); exact Calls.quiet_of_same (key_at b px kx _ hp0 hp1 Hkx)) | (go_at_call_of 25 (Value.int IntKind.u64 py); exact Calls.quiet_of_same (key_at b py ky _ hq0 hq1 Hky)))
                        go_wp2_with fail
                        go_roundw
                        case rel => exact ⟨x, y + 1, k + 1, _, rfl, by go_num, by go_num, by omega, by omega, by omega, by omega, hs1.drewN _, hb1, hM1⟩
                        case measure => simp [intOf]; omega
                    · have hM1 : Hid _ := mk_right hMk.out hk1 hyl (.inl (by omega))
                      have hs1 := hst.set k (gs y)
                      have hb1 : Hid (Bd i (upd gb k (gs y))) := hbb.out.upd k hq0 hq1
                      generalize gs y = py at hcy hM1 hs1 hb1 hq0 hq1
                      have e : x = mid := by omega
                      subst e
                      have hd : decide ((x : Int) < (x : Int)) = false := decide_eq_false (by omega)
                      go_wp2_with fail
                      go_big_quiet (fail)
                      go_wp2_with fail
                      go_roundw
                      case rel => exact ⟨x, y + 1, k + 1, _, rfl, by go_num, by go_num, by omega, by omega, by omega, by omega, hs1.drewN _, hb1, hM1⟩
                      case measure => simp [intOf]; omega
                  · have e : y = hi := by omega
                    subst e
                    have hxl : x < mid := by omega
                    have hcx := hst.a.cell (j := x) (by omega)
                    have hM1 : Hid _ := mk_left hMk.out hk1 hxl (.inl (by omega))
                    have hs1 := hst.set k (gs x)
                    obtain ⟨hp0, hp1⟩ := hbd.out x (by omega)
                    have hb1 : Hid (Bd i (upd gb k (gs x))) := hbb.out.upd k hp0 hp1
                    generalize gs x = px at hcx hM1 hs1 hb1 hp0 hp1
                    go_wp2_with fail
                    go_big_quiet (fail)
                    go_wp2_with fail
                    go_roundw
                    case rel => exact ⟨x + 1, y, k + 1, _, by go_num, rfl, by go_num, by omega, by omega, by omega, by omega, hs1.drewN _, hb1, hM1⟩
                    case measure => simp [intOf]; omega
                · have hM1 : Hid _ := mk_end hMk.out hk1 hlt0.out hln Hmid.out Hhi.out hM.out
                  go_wp2_with fail
                  go_roundw
                  case rel => exact ⟨t + 1, lo + 2 * wd, gb, by go_num, by omega, (by show _ = _; rw [hlt0.out, Nat.add_mul, Nat.one_mul]), hst, hbb, hM1⟩
                  case measure => simp [intOf]; omega
            · go_wp2_with fail
              go_roundw
              case rel => exact ⟨B, A, 2 * wd, gb0, gs, rfl, rfl, by go_num, by omega, by omega, hst.swap, hbb, hbd, blk_pass hblk.out hM.out (by rw [← hlt0.out]; omega)⟩
              case measure => simp [intOf]; omega
        · go_wp2_with fail
          go_ret
          exact ⟨A, gs, rfl, hst.a, (by show Srt _ _ _; have := blk_all hblk.out (show i ≤ wd by omega); rw [show seg (fun j => pts.getD j 0) 0 i = pts by rw [← Hl.out]; exact seg_list pts] at this; exact this), hbd, hst.keep, hst.ha⟩
end Go.Proofs.Qxb6000402aMods
