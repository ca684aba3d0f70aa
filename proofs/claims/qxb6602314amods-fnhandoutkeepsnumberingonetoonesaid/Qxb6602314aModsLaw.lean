import Derived.Test.Qxb6602314aModsDuo
namespace Go.Proofs.Qxb6602314aMods
open Go.RowKit Go.Maps
set_option linter.unusedVariables false

/-- The row that the call has made. -/
theorem own_row {w : World} {n : Nat} {xs : List Value} {H : Nat} (h : w.ownsRow H 9 1 (.slice (some ⟨H, 0, none⟩) n n) n xs) : xs.length = n ∧ w.heap[H]? = some (.cells xs.toArray 9 (0, 0)) := by
  obtain ⟨hl, h | ⟨g, cap, cur, hv, _, hg, _, _, hs, ht⟩⟩ := h
  · cases h.1
  · simp only [Value.slice.injEq, Option.some.injEq, Addr.mk.injEq, true_and, and_true] at hv
    obtain ⟨rfl, rfl⟩ := hv
    have e : cur.toList = xs := by rw [← ht, List.take_of_length_le (by simp; omega)]
    rw [← e]
    exact ⟨by simp; omega, by simpa using hg⟩
theorem addr_add (b off j : Nat) : (⟨b, off, none⟩ : Addr).add j = ⟨b, off + j, none⟩ := by unfold Addr.add; split <;> simp_all
def nameCells (f : Nat → ByteArray) (m : Nat) : List Value := (List.range m).map (fun j => Value.string (f j))
theorem len_nameCells (f : Nat → ByteArray) (m : Nat) : (nameCells f m).length = m := by simp [nameCells]
theorem nameCells_at {f : Nat → ByteArray} {m j : Nat} (h : j < m) : (nameCells f m)[j]? = some (.string (f j)) := by simp [nameCells, h]
theorem copied {w : World} {H m : Nat} {xs : List Value} {f : Nat → ByteArray} (hg : Hid (w.heap[H]? = some (.cells (splice xs 0 (nameCells f m)).toArray 9 (0, 0)))) (hx : xs.length = m) : NmsIn w (some ⟨H, 0, none⟩) m f := by
  have e : splice xs 0 (nameCells f m) = nameCells f m := by simp [splice, List.drop_of_length_le (show xs.length ≤ (nameCells f m).length by rw [len_nameCells]; omega)]
  have hg' := hg.out
  rw [e] at hg'
  refine fun _ => ⟨H, 0, rfl, (Array.getElem?_eq_some_iff.1 hg').1, fun j hj => ?_⟩
  rw [Nat.zero_add]
  simp [World.cell?, hg', nameCells_at hj]

theorem maps_new1 (w : World) (B : Nat) : MapsIn (w.alloc (.cells #[.map (some B)] 27)) (some ⟨w.heap.size, 0, none⟩) 1 (fun _ => B) := by
  refine fun _ => ⟨_, 0, rfl, by simp, fun j hj => ?_⟩
  obtain rfl : j = 0 := by omega
  rw [World.cell?_alloc_at _ _ _ _ rfl]
  rfl
theorem maps_new2 (w : World) (B B' : Nat) : MapsIn (w.alloc (.cells #[.map (some B), .map (some B')] 27)) (some ⟨w.heap.size, 0, none⟩) 2 (fun j => if j = 0 then B else B') := by
  refine fun _ => ⟨_, 0, rfl, by simp, fun j hj => ?_⟩
  rw [World.cell?_alloc_at _ _ _ _ rfl]
  obtain rfl | rfl : j = 0 ∨ j = 1 := by omega
  · rfl
  · rfl

set_option maxRecDepth 100000 in
set_option maxHeartbeats 4000000 in
theorem law_walk (a na : Option Addr) (n c m mc : Nat) (ks : Nat → ByteArray) (ns : Nat → Int) (f : Nat → ByteArray) (lo hi : Int) (w : World) (hn : n ≤ 9223372036854775807) (hm : m ≤ 9223372036854775807) (Hg : Hid (GotIn w a n ks ns)) (Hn : Hid (NmsIn w na m f)) (Hn0 : Hid (na = none → m = 0 ∧ mc = 0))
    (Hks : Hid (∀ j, j < n → (ks j).size ≤ 9223372036854775807)) (Hfs : Hid (∀ j, j < m → (f j).size ≤ 9223372036854775807)) (Hw : Hid (∀ j, j < n → (Lit.int .i64 (ns j)).wf = true)) (Hlo : Hid ((Lit.int .i64 lo).wf = true)) (Hhi : Hid ((Lit.int .i64 hi).wf = true)) :
    Calls Trym.prog 4 #[.slice a n c, .slice na m mc, .int .i64 lo, .int .i64 hi] w fun e w' => e = .returned (.bool true) ∧ Below w.heap.size w w' := by
  obtain ⟨i0, hi0, hz0, hz1, hz2⟩ := info_parts info9
  have hnn := fun wx => run_neq_slice_nil_any (P := Trym.prog) wx 23 9 na m mc 0 0 Trym.underlying23
  go_enter Trym.func4, Trym.ntmps4
  go_wp2_with fail
  refine (zzBytes_any a na n c m mc ks ns f lo hi w hn hm Hg Hn Hks Hfs).mono ?_
  rintro e w' (⟨rfl, hw'⟩ | ⟨rfl, hw', hs⟩) <;> replace hw' := hw'.symm <;> subst hw'
  · go_wp2_with fail
    go_ret
    exact ⟨rfl, Below.refl _ _⟩
  obtain ⟨hn1, hm1, hk1, hf1⟩ := hs.out
  have Hk1 : Hid (∀ j, j < n → (ks j).size ≤ 1048576) := hk1
  have Hf1 : Hid (∀ j, j < m → (f j).size ≤ 1048576) := hf1
  clear hs hk1 hf1 Hks Hfs hn hm
  go_wp2_with fail
  refine (entriesBytes_any a n c ks ns 0 _ (by omega) (by omega) hn1 Hg Hk1).mono ?_
  rintro e w' ⟨z, rfl, hw', hz0', hz1'⟩
  replace hw' := hw'.symm
  subst hw'
  go_wp2_with fail
  refine (namesBytes_any na m mc f z _ hz0' hz1' hm1 Hn Hf1).mono ?_
  rintro e w' ⟨z', rfl, hw'⟩
  replace hw' := hw'.symm
  subst hw'
  by_cases hbig : 1048576 < z'
  · go_wp2_with fail
    go_ret
    exact ⟨rfl, Below.refl _ _⟩
  go_upto_if 35 with fail
  go_cut [1] (fun nv wx => ∃ nb nc, nv = .slice nb m nc ∧ Hid (NmsIn wx nb m f) ∧ Keeps [] w wx)
  case first =>
    cases na with
    | none =>
      obtain ⟨h1, h2⟩ := Hn0.out rfl
      subst h1; subst h2
      go_wp2_with fail
      go_meet
      case rel => exact ⟨none, 0, rfl, Hn, Keeps.refl _ _⟩
    | some x =>
      have Hsrc : Hid (∀ w1, Below w.heap.size w w1 → 0 < (nameCells f m).length → ∀ j v, (nameCells f m)[j]? = some v → w1.cell? (x.add j) = some v) := by
        intro w1 hb h0 j v hj
        rw [len_nameCells] at h0
        obtain ⟨b, off, e, hb1, hc⟩ := Hn.out h0
        injection e with e
        subst e
        have hjl : j < m := by have := (List.getElem?_eq_some_iff.1 hj).1; rw [len_nameCells] at this; exact this
        rw [nameCells_at hjl] at hj
        injection hj with hj
        subst hj
        rw [addr_add, hb.cell (p := ⟨b, off + j, none⟩) hb1]
        exact hc j hjl
      go_wp2_with (first
        | (at_make; refine wpList_make_full _ rfl _ _ 23 rfl w.heap.size 9 i0 (.string ByteArray.empty) 1 Trym.underlying23 hi0 hz0 hz1 _ _ _ _ m rfl rfl rfl rfl (by rw [hz2]; omega) (by unfold maxLen; omega) (Nat.le_refl _) ?_; intro w1 hown hgrow; obtain ⟨hxl, hrow⟩ := own_row hown; generalize (madeCells (Value.string ByteArray.empty).cells (m * 1)).toList = xs at hxl hrow; have hb1 := (Below.refl w.heap.size w).grown hgrow (Nat.le_refl _) (by simp); clear hown hgrow)
        | (refine wpList_copy_splice rfl (.tmp 39) (.tmp 40) 23 23 rfl 9 Trym.underlying23 size9 _ _ _ _ _ _ rfl rfl w.heap.size 0 xs 9 hrow (nameCells f m) (by rw [len_nameCells]; exact (Nat.min_self _).symm) (fun h0 => ⟨rfl, x, rfl, Hsrc.out w1 hb1 h0⟩) (by rw [len_nameCells, hxl]; omega) (by intro u hu; simp [nameCells] at hu; obtain ⟨y, _, rfl⟩ := hu; rfl) w.heap.size w hb1 (Nat.le_refl _) ?_; intro w2 hG2 hB2; have hcells := copied hG2 hxl; clear hG2 hrow hb1 Hsrc))
      go_meet
      case rel => exact ⟨_, m, rfl, hcells, Keeps.ofBelow hB2⟩
  case rest =>
    obtain ⟨nb, nc, rfl, Hnb, hk0⟩ := hcut
    have hkw := hk0.size
    clear Hn Hn0 hnn hi0 hz0 hz1 hz2 hbig hz0' hz1'
    go_wp2_with fail
    refine (build_any a n c ks ns _ hn1 (Hg.out.kept hk0) Hk1 Hw).mono ?_
    rintro e w1 ⟨rfl, Hb1, hk1⟩
    have hf1 : Hid (Fine (bg ks ns n)) := bg_fine Hk1.out Hw.out
    obtain ⟨f0, HF⟩ : ∃ f0, Hid (bg ks ns n = f0) := ⟨_, (by show _ = _; rfl)⟩
    rw [HF.out] at Hb1 hf1
    have hB1 : wc.heap.size < w1.heap.size := MapAt.lt Hb1.out
    go_wp2_with fail
    refine (zzAgree_any _ 1 1 n (fun _ => wc.heap.size) (fun _ => f0) _ (by omega) (by omega) (maps_new1 w1 _) (fun j _ => ⟨Hb1.out.kept0 ((Keeps.refl [] w1).alloc _), hf1.out⟩)).mono ?_
    rintro e w2 ⟨hk2, ⟨rfl, hc⟩ | ⟨rfl, hc, _⟩⟩
    · have hend : Hid (Below w.heap.size w w2) := ((hk0.trans hk1).trans (((Keeps.refl [] w1).alloc _).trans hk2)).below
      clear hc hk2
      go_wp2_with fail
      go_ret
      exact ⟨rfl, hend.out⟩
    have hinj0 : Hid (InjF f0) := inj_of_cons hc
    replace hk2 := ((Keeps.refl [] w1).alloc _).trans hk2
    clear hc
    have hk02 := hk1.trans hk2
    have hk02s := hk02.size
    have hk2s := hk2.size
    go_wp2_with fail
    refine (build_any a n c ks ns _ hn1 (Hg.out.kept (hk0.trans hk02)) Hk1 Hw).mono ?_
    rintro e w3 ⟨rfl, Hb2, hk3⟩
    rw [HF.out] at Hb2
    have hB2 : w2.heap.size < w3.heap.size := MapAt.lt Hb2.out
    have hk03 := hk02.trans hk3
    go_wp2_with fail
    refine (zzHand_any w2.heap.size n f0 nb m nc f lo hi _ hn1 hm1 Hb2 hf1 hinj0 (Hnb.out.kept hk03) Hf1 Hlo Hhi).mono ?_
    rintro e w4 ⟨v, g, rfl, hst, Hg4, hfine, hinj, hext, hk4⟩
    obtain ⟨la, lc, rfl, hla⟩ := hst.out
    have Hla : Hid (NmsIn w4 la (lack g f m).length (fun j => (lack g f m).getD j ByteArray.empty)) := hla
    have hk04 := hk03.onto hk4 hk02s
    have Hg3 : Hid (SI w4 wc.heap.size n f0) := MapAt.kept (SI.kept0 Hb1.out (hk2.trans hk3)) hk4 (by simp; omega)
    have Hn4 : Hid (NmsIn w4 nb m f) := Hnb.out.kept hk04
    have hB4 : w2.heap.size < w4.heap.size := MapAt.lt Hg4.out
    clear hla hst hk4 Hb2 hk3 hk03 hk02 hk2 hk1 Hb1
    go_wp2_with fail
    go_loopw [15, 16] (fun vv iv wr => ∃ i : Nat, iv = .int .i64 i ∧ i ≤ m ∧ Owns w4.heap.size wr vv (lack g f i) ∧ Keeps [] w4 wr) (fun _ iv _ => m - (intOf iv).toNat)
    case atStart => exact ⟨0, rfl, by omega, Owns.nil _ _, Keeps.refl _ _⟩
    case round =>
      obtain ⟨i, rfl, hi, hown, hk⟩ := hrel
      have hks := hk.size
      by_cases hlt : i < m
      · obtain ⟨b, off, hx, hb, hcc⟩ := Hn4.out (by omega)
        subst hx
        have hci : wr.cell? ⟨b, off + i, none⟩ = some (.string (f i)) := (World.cell?_of_block (a := ⟨b, off + i, none⟩) (hk.block b hb (by simp))).trans (hcc i hlt)
        have hsi : (f i).size ≤ maxLen := Nat.le_trans (Hf1.out i hlt) (by unfold maxLen; omega)
        obtain ⟨y, hy⟩ : ∃ y, Hid (f i = y) := ⟨f i, (by show _ = _; rfl)⟩
        rw [hy.out] at hci hsi
        clear hcc
        cases hgy : g y with
        | some x =>
          have q1 := SI.yes (SI.kept0 Hg4.out hk) hsi hgy
          go_wp2_with fail
          go_roundw
          case rel => exact ⟨i + 1, by go_num, by omega, by rw [lack_some (x := x) (by rw [hy.out]; exact hgy)]; exact hown, hk⟩
          case measure => simp [intOf]; omega
        | none =>
          have q1 := SI.no (SI.kept0 Hg4.out hk) hsi hgy
          obtain ⟨vv, hvv⟩ : ∃ v, v = u15 := ⟨_, rfl⟩
          subst hvv
          go_wp2_with (at_builtin; refine app_one _ rfl _ _ rfl w4.heap.size vv (lack g f i) y (by rfl) hown (by rfl) (Nat.le_trans (lack_length _ _ _) (by omega)) hks ?_; intro v1 w1 hown1 hgr)
          go_roundw
          case rel => exact ⟨i + 1, by go_num, by omega, by rw [lack_none (by rw [hy.out]; exact hgy), hy.out]; exact hown1, hk.grown hgr (fun j hj => .inl (World.ownsRow.lt hown j hj).1)⟩
          case measure => simp [intOf]; omega
      · have e : i = m := by omega
        subst e
        obtain ⟨a2, c2, hv2, hla2⟩ := hown.strs
        subst hv2
        have Hla2 : Hid (NmsIn wr a2 (lack g f i).length (fun j => (lack g f i).getD j ByteArray.empty)) := hla2
        have Hla1 : Hid (NmsIn wr la (lack g f i).length (fun j => (lack g f i).getD j ByteArray.empty)) := Hla.out.kept hk
        have hL : (lack g f i).length ≤ 1048576 := Nat.le_trans (lack_length _ _ _) hm1
        have Hg5 : Hid (SI wr w2.heap.size 2097152 g) := SI.kept0 Hg4.out hk
        have Hg6 : Hid (SI wr wc.heap.size n f0) := SI.kept0 Hg3.out hk
        have hkr := hk04.trans hk
        clear hla2 hown Hla Hg4 Hg3
        generalize (lack g f i).length = L at hL Hla1 Hla2 ⊢
        go_wp2_with fail
        refine (sameStrings_any la a2 L lc c2 _ _ _ hL Hla1 Hla2 (fun _ _ => rfl)).mono ?_
        rintro e w6 ⟨dr, rfl, hw6⟩
        subst hw6
        have Hg5' : Hid (SI (wr.drewN dr) w2.heap.size 2097152 g) := Hg5
        have Hg6' : Hid (SI (wr.drewN dr) wc.heap.size n f0) := Hg6
        have hkr' := hkr.drewN dr
        generalize wr.drewN dr = wp at Hg5' Hg6' hkr' ⊢
        clear Hla1 Hla2 Hg5 Hg6 hkr hk hks
        go_wp2_with fail
        refine (zzAgree_any _ 2 2 2097152 (fun j => if j = 0 then wc.heap.size else w2.heap.size) (fun j => if j = 0 then f0 else g) _ (by omega) (by omega) (maps_new2 wp _ _) (by
          intro j hj
          obtain rfl | rfl : j = 0 ∨ j = 1 := by omega
          · exact ⟨SI.kept0 (MapAt.mono Hg6'.out (by omega)) ((Keeps.refl [] wp).alloc _), hf1.out⟩
          · exact ⟨SI.kept0 Hg5'.out ((Keeps.refl [] wp).alloc _), hfine.out⟩)).mono ?_
        rintro e w7 ⟨hk7, ⟨rfl, hc⟩ | ⟨rfl, hc, r, hr1, hr2⟩⟩
        · exact absurd (cons_two hext.out hinj.out) hc
        have hrg : r = g := view_eq (fun s v => (hr2 s v).trans (among_two hext.out))
        subst hrg
        have Hg7 : Hid (SI w7 w2.heap.size 2097152 r) := SI.kept0 Hg5'.out (((Keeps.refl [] wp).alloc _).trans hk7)
        have hkr7 := hkr'.trans (((Keeps.refl [] wp).alloc _).trans hk7)
        obtain ⟨H, hH⟩ : ∃ H, H = (wp.alloc (.cells #[.map (some wc.heap.size), .map (some w2.heap.size)] 27)).heap.size := ⟨_, rfl⟩
        rw [← hH] at hr1 ⊢
        have Hr7 : Hid (SI w7 H 8388608 r) := hr1
        obtain ⟨ln, hln, hl1, hl2⟩ := MapAt.len (t := 27) Hg7.out Hr7.out lawS Trym.underlying27
        have hmn := fun wx => run_eql_map_nil (P := Trym.prog) wx 27 9 3 (some H) Trym.underlying27
        clear hk7 hkr' Hg5' Hg6' hr1 hr2 hc hH
        go_wp2_with fail
        have Hgot : Hid (GotIn w7 a n ks ns) := Hg.out.kept (hk0.trans hkr7)
        have Hnam : Hid (NmsIn w7 nb i f) := Hnb.out.kept hkr7
        have hend : Hid (Below w.heap.size w w7) := (hk0.trans hkr7).below
        go_loop [21] (fun jv => ∃ j : Nat, jv = .int .i64 j ∧ j ≤ n) (fun jv => n - (intOf jv).toNat)
        case atStart => exact ⟨0, rfl, by omega⟩
        case round =>
          obtain ⟨j, rfl, hj⟩ := hrel
          by_cases hjl : j < n
          · obtain ⟨b, off, hx, hb, hcc, _⟩ := Hgot.out (by omega)
            subst hx
            have hcj := hcc j hjl
            have hsj := Hk1.out j hjl
            generalize ks j = y at hcj hsj
            clear hcc
            go_wp2_with fail
            refine (sameAt_any H w2.heap.size _ _ r y w7 Hr7 Hg7 hsj).mono ?_
            rintro e wz ⟨rfl, hwz⟩
            subst hwz
            go_wp2_with fail
            refine ⟨⟨j + 1, by go_num, by omega⟩, by simp [intOf]; omega⟩
          · go_wp2_with fail
            go_loop [22] (fun jv => ∃ j : Nat, jv = .int .i64 j ∧ j ≤ i) (fun jv => i - (intOf jv).toNat)
            case atStart => exact ⟨0, rfl, by omega⟩
            case round =>
              clear hjl
              obtain ⟨q, rfl, hq⟩ := hrel
              by_cases hql : q < i
              · obtain ⟨b, off, hx, hb, hcc⟩ := Hnam.out (by omega)
                subst hx
                have hcj := hcc q hql
                have hsj := Hf1.out q hql
                generalize f q = y at hcj hsj
                clear hcc
                go_wp2_with fail
                refine (sameAt_any H w2.heap.size _ _ r y w7 Hr7 Hg7 hsj).mono ?_
                rintro e wz ⟨rfl, hwz⟩
                subst hwz
                go_wp2_with fail
                refine ⟨⟨q + 1, by go_num, by omega⟩, by simp [intOf]; omega⟩
              · go_wp2_with fail
                go_ret
                exact ⟨rfl, hend.out⟩
end Go.Proofs.Qxb6602314aMods
