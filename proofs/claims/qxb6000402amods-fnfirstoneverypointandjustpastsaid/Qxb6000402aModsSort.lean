import Derived.Test.Qxb6000402aModsSortA
namespace Go.Proofs.Qxb6000402aMods
open Go.RowKit Mem Deal
set_option linter.unusedVariables false

set_option maxRecDepth 100000 in
set_option maxHeartbeats 16000000 in
theorem sort_any (C O P n : Nat) (pa : Option Addr) (nv : Value) (pts : List Int) (of_ : Nat → Int) (w : World) (hn : n ≤ 131072) (Hl : Hid (pts.length = n)) (Hg : Hid (∀ p ∈ pts, Deal.Good p))
    (hC : Row w C 30 [.slice none 0 0, .slice none 0 0, .slice none 0 0, .slice (some ⟨O, 0, none⟩) n n, nv, .int .i64 0])
    (Hp : Hid (0 < n → pa = some ⟨P, 0, none⟩ ∧ FRow w P 37 .u64 n (fun j => pts.getD j 0) ∧ P ≠ C ∧ P ≠ O)) (hO : FRow w O 39 .u16 n of_) (hCO : C ≠ O) :
    Calls Trym.prog 27 #[.pointer (some ⟨C, 0, none⟩), .slice pa n n] w fun e w' => e = .returned (.tuple #[]) ∧ Sorted' w w' C O P n nv pts := by
  have hCl := hC.lt
  have hOl := hO.lt
  have hnar : decide ((131074 : Int) ≤ (n : Int)) = false := decide_eq_false (by omega)
  go_enter Trym.func27, Trym.ntmps27
  go_upto_region 3 with fail
  refine wp_region_lit ?_
  refine wpList_alloc51 rfl rfl ?_
  intro w1 hN1 hk1 hs1
  have hSp : Sp w w1 C O P w.heap.size n [.slice none 0 0, .slice none 0 0, .slice none 0 0, .slice (some ⟨O, 0, none⟩) n n, nv, .int .i64 0] (fun j => pts.getD j 0) of_ (fun _ _ => 0) :=
    ⟨hC.kept hk1 (by simp), fun h0 => (Hp.out h0).2.1.kept hk1 (by simp), hO.kept hk1 (by simp), nrow_zero hN1, hk1.more (by simp)⟩
  clear hC hO hN1 hk1
  obtain ⟨N, hN⟩ : ∃ N, N = w.heap.size := ⟨_, rfl⟩
  have HN : Hid (w.heap.size ≤ N) := by show _ ≤ _; omega
  have hPl : 0 < n → P < N := fun h0 => by have := (Hp.out h0).2.1.lt; omega
  rw [← hN] at hSp hCl hOl hs1
  go_wp2_with fail
  rw [← hN]
  clear hN
  go_loopw [37] (fun iv wr => ∃ (k : Nat) (G : Nat → Nat → Int), iv = .int .i64 k ∧ k ≤ n ∧ Sp w wr C O P N n [.slice none 0 0, .slice none 0 0, .slice none 0 0, .slice (some ⟨O, 0, none⟩) n n, nv, .int .i64 0] (fun j => pts.getD j 0) of_ G ∧ Hid (Counted pts k 0 G)) (fun iv _ => n - (intOf iv).toNat)
  case atStart => exact ⟨0, _, rfl, Nat.zero_le _, hSp, counted_zero pts⟩
  case round =>
    clear hSp
    obtain ⟨k, G, rfl, hk, hSp, hcnt⟩ := hrel
    by_cases hlt : k < n
    · obtain ⟨hpa, _, hPC, hPO⟩ := Hp.out (by omega)
      subst hpa
      have hPN := hPl (by omega)
      have hcp := (hSp.p (by omega)).cell hlt
      have hkl : k < pts.length := by rw [Hl.out]; exact hlt
      obtain ⟨p, hp⟩ : ∃ p, p = pts.getD k 0 := ⟨_, rfl⟩
      have HP : Hid (p = pts.getD k 0) := hp
      have hgp : Deal.Good p := by
        rw [hp]
        have : pts.getD k 0 = pts[k] := by simp [List.getD, hkl]
        rw [this]
        exact Hg.out _ (List.getElem_mem hkl)

      rw [← hp] at hcp
      clear hp
      obtain ⟨hp0, hp1, hp2⟩ := hgp
      have hgp : Hid (Deal.Good p) := ⟨hp0, hp1, hp2⟩
      go_wp2_with fail
      go_loopw [41] (fun dv w2 => ∃ (d : Nat) (G : Nat → Nat → Int), dv = .int .i64 d ∧ d ≤ 3 ∧ Sp w w2 C O P N n [.slice none 0 0, .slice none 0 0, .slice none 0 0, .slice (some ⟨O, 0, none⟩) n n, nv, .int .i64 0] (fun j => pts.getD j 0) of_ G ∧ Hid (Counted pts k d G)) (fun dv _ => 3 - (intOf dv).toNat)
      case atStart => exact ⟨0, G, rfl, by omega, hSp, hcnt⟩
      case round =>
        clear hSp hcnt hcp
        obtain ⟨d, G, rfl, hd, hSp, hcnt⟩ := hrel
        by_cases hd0 : d = 0
        · subst hd0
          have hb : bits .and .u64 (p / 4294967296) 2047 = ((d0 p : Nat) : Int) := by rw [mask11 _ (by omega) (by omega), d0_cast]
          have hv := d0_lt p
          generalize hv0 : d0 p = v at hb hv
          have hce := hSp.nx.cell (o := v) (d := 0) (v := v) (by omega) (by omega) hv
          have hfr := Row.frozen hSp.nx (v)
          have hbd := count_bd hcnt Hl (e := 0) (v := v) (by omega) hv
          obtain ⟨hbd0, hbd1⟩ := hbd
          generalize hx : G 0 v = x at hce hbd0 hbd1
          have HV : Hid (dg 0 (pts.getD k 0) = v) := by rw [← HP.out]; exact hv0
          have HX : Hid (G 0 v = x) := hx
          clear hv0 hx
          go_wp2_with fail
          go_region
          all_goals go_wp2_with fail
          all_goals go_roundw
          case rel => exact ⟨1, _, by go_num, by omega, (hSp.next HN.out (by omega) (by omega) (fun _ => by omega) (o := v) (d := 0) (v := v) (by omega) hv (x + 1)).drew, counted_at hcnt hkl (by omega) HV.out hv HX.out⟩
          case measure => simp [intOf]
        by_cases hd1 : d = 1
        · subst hd1
          have hb : bits .and .u64 (p / 8796093022208) 2047 = ((d1 p : Nat) : Int) := by rw [mask11 _ (by omega) (by omega), d1_cast]
          have hv := d1_lt p
          generalize hv0 : d1 p = v at hb hv
          have hce := hSp.nx.cell (o := 2048 + v) (d := 1) (v := v) (by omega) (by omega) hv
          have hfr := Row.frozen hSp.nx (2048 + v)
          have hbd := count_bd hcnt Hl (e := 1) (v := v) (by omega) hv
          obtain ⟨hbd0, hbd1⟩ := hbd
          generalize hx : G 1 v = x at hce hbd0 hbd1
          have HV : Hid (dg 1 (pts.getD k 0) = v) := by rw [← HP.out]; exact hv0
          have HX : Hid (G 1 v = x) := hx
          clear hv0 hx
          go_wp2_with fail
          go_region
          all_goals go_wp2_with fail
          all_goals go_roundw
          case rel => exact ⟨2, _, by go_num, by omega, (hSp.next HN.out (by omega) (by omega) (fun _ => by omega) (o := 2048 + v) (d := 1) (v := v) (by omega) hv (x + 1)).drew, counted_at hcnt hkl (by omega) HV.out hv HX.out⟩
          case measure => simp [intOf]
        by_cases hd2 : d = 2
        · subst hd2
          have hb : bits .and .u64 (p / 18014398509481984) 2047 = ((d2 p : Nat) : Int) := by rw [mask11 _ (by omega) (by omega), d2_mask hgp.out, d2_cast hp0]
          have hv := d2_lt hgp.out
          generalize hv0 : d2 p = v at hb hv
          have hce := hSp.nx.cell (o := 4096 + v) (d := 2) (v := v) (by omega) (by omega) hv
          have hfr := Row.frozen hSp.nx (4096 + v)
          have hbd := count_bd hcnt Hl (e := 2) (v := v) (by omega) hv
          obtain ⟨hbd0, hbd1⟩ := hbd
          generalize hx : G 2 v = x at hce hbd0 hbd1
          have HV : Hid (dg 2 (pts.getD k 0) = v) := by rw [← HP.out]; exact hv0
          have HX : Hid (G 2 v = x) := hx
          clear hv0 hx
          go_wp2_with fail
          go_region
          all_goals go_wp2_with fail
          all_goals go_roundw
          case rel => exact ⟨3, _, by go_num, by omega, (hSp.next HN.out (by omega) (by omega) (fun _ => by omega) (o := 4096 + v) (d := 2) (v := v) (by omega) hv (x + 1)).drew, counted_at hcnt hkl (by omega) HV.out hv HX.out⟩
          case measure => simp [intOf]
        · obtain rfl : d = 3 := by omega
          clear hd0 hd1 hd2
          go_wp2_with fail
          go_roundw
          case rel => exact ⟨k + 1, G, by go_num, by omega, hSp, counted_done hcnt⟩
          case measure => simp [intOf]; omega
    · have hkn : k = n := by omega
      subst hkn
      have hst := started_zero hcnt Hl.out
      clear hcnt hlt hk
      go_wp2_with fail
      go_loopw [71] (fun dv w2 => ∃ (d : Nat) (G : Nat → Nat → Int), dv = .int .i64 d ∧ d ≤ 3 ∧ Sp w w2 C O P N k [.slice none 0 0, .slice none 0 0, .slice none 0 0, .slice (some ⟨O, 0, none⟩) k k, nv, .int .i64 0] (fun j => pts.getD j 0) of_ G ∧ Hid (Started pts d 0 G)) (fun dv _ => 3 - (intOf dv).toNat)
      case atStart => exact ⟨0, G, rfl, by omega, hSp, hst⟩
      case round =>
        clear hSp hst
        obtain ⟨d, G, rfl, hd, hSp, hst⟩ := hrel
        by_cases hd3 : d < 3
        · obtain ⟨A, hA⟩ : ∃ A, A = cells .i64 2048 (fun v => G d v) := ⟨_, rfl⟩
          have hrng : wr.rangeAt N (d * 2048) A := by
            intro j v hj
            have hjl : j < 2048 := by have := (List.getElem?_eq_some_iff.1 hj).1; rw [hA] at this; simpa [cells] using this
            rw [hA] at hj
            simp [cells, hjl] at hj
            rw [hSp.nx.cell (d := d) (v := j) rfl hd3 hjl, ← hj]
          have HA : Hid (∀ v, v < 2048 → A[v]? = some (.int .i64 (cf (dg d) pts v))) := by
            intro v hv
            have h0 := hst.out d v hd3 hv
            rw [if_neg (by omega)] at h0
            rw [hA]
            simp [cells, hv, h0]
          have Hlen : Hid (A.length = 2048) := by rw [hA]; show _ = _; simp [cells]
          clear hA
          go_upto_region 19 with fail
          refine wp_region_lit ?_
          go_wp2_with (refine wpList_load_mid rfl 50 (.tmp 75) rfl N (d * 2048) rfl A (.array 2048 3) hrng und50 rfl (by rw [Hlen.out]; exact info50) ?_)
          clear hrng
          have hst0 := hst
          go_loopw [10, 77] (fun sv vv w3 => ∃ (v : Nat) (G : Nat → Nat → Int), vv = .int .i64 v ∧ v ≤ 2048 ∧ sv = .int .i64 (lo (dg d) pts v) ∧ Sp w w3 C O P N k [.slice none 0 0, .slice none 0 0, .slice none 0 0, .slice (some ⟨O, 0, none⟩) k k, nv, .int .i64 0] (fun j => pts.getD j 0) of_ G ∧ Hid (Started pts d v G)) (fun _ vv _ => 2048 - (intOf vv).toNat)
          case atStart => exact ⟨0, G, rfl, by omega, rfl, hSp, hst⟩
          case round =>
            clear hSp hst hst0
            obtain ⟨v, G, rfl, hv, rfl, hSp, hst⟩ := hrel
            by_cases hv2 : v < 2048
            · have hix := fun wx => idx50 A v hv2 _ (HA.out v hv2) wx
              have hfr := Row.frozen hSp.nx (d * 2048 + v)
              have hce := hSp.nx.cell (o := d * 2048 + v) (d := d) (v := v) rfl hd3 hv2
              have hl1 : lo (dg d) pts v ≤ k := by rw [← Hl.out]; exact lo_le _ _ _
              have hl2 : lo (dg d) pts v + cf (dg d) pts v ≤ k := by rw [← Hl.out]; exact lo_le _ _ (v + 1)
              have Hlo : Hid (lo (dg d) pts (v + 1) = lo (dg d) pts v + cf (dg d) pts v) := rfl
              generalize hx : G d v = x at hce
              clear hx
              have hnx := hSp.next HN.out (by omega) (by omega) (fun h0 => by have := hPl h0; omega) (o := d * 2048 + v) (d := d) (v := v) rfl hv2 (lo (dg d) pts v : Int)
              have hst1 := started_step hst
              go_wp2_with fail
              go_roundw
              case rel => exact ⟨v + 1, _, by go_num, by omega, by rw [Hlo.out]; go_num, hnx, hst1⟩
              case measure => simp [intOf]; omega
            · obtain rfl : v = 2048 := by omega
              have hst1 := started_done hst
              go_wp2_with fail
              go_roundw
              case rel => exact ⟨d + 1, G, by go_num, by omega, hSp, hst1⟩
              case measure => simp [intOf]; omega
        · obtain rfl : d = 3 := by omega
          have hnx := nx_zero hst
          clear hst hd hd3
          have hc2 := hSp.c.cell 2
          simp only [List.getElem?_cons_succ, List.getElem?_cons_zero] at hc2
          go_wp2_with fail
          refine wp_loop_rounds 1 ?_; rw [rounds_succ]
          obtain ⟨i0, hi0, hz0, hz1, hz2⟩ := info_parts info36
          go_wp2_with (at_make; refine wpList_make_full _ rfl _ _ 27 rfl wr.heap.size 36 i0 (.int .u32 0) 1 Trym.underlying27 hi0 hz0 hz1 _ _ _ _ k rfl rfl rfl rfl (by rw [hz2]; omega) (by unfold maxLen; omega) (Nat.le_refl _) ?_; intro w2 hown hgrow; have hW0 := made_row hown; have hkp := keeps_grown hgrow; clear hown hgrow)
          have hNW : N < wr.heap.size := Row.lt hSp.nx
          have hSp2 := hSp.kept hkp
          clear hSp hc2
          obtain ⟨W, hW⟩ : ∃ W, W = wr.heap.size := ⟨_, rfl⟩
          rw [← hW] at hW0 hNW
          rw [← hW]
          clear hW hkp
          go_loopw [122] (fun iv wr => ∃ (j : Nat) (G : Nat → Nat → Int) (of1 wf : Nat → Int), iv = .int .i64 j ∧ j ≤ k ∧ Sp w wr C O P N k [.slice none 0 0, .slice none 0 0, .slice none 0 0, .slice (some ⟨O, 0, none⟩) k k, nv, .int .i64 0] (fun j => pts.getD j 0) of1 G ∧ FRow wr W 36 .u32 k wf ∧ Hid (Nx 0 pts j pts G) ∧ Hid (Dealt d0 2048 pts j pos wf) ∧ Hid (Dealt d0 2048 pts j own of1)) (fun iv _ => k - (intOf iv).toNat)
          case atStart => exact ⟨0, G, _, _, rfl, by omega, hSp2, hW0, hnx, dealt_zero _ _ _ _ _, dealt_zero _ _ _ _ _⟩
          case round =>
            clear hSp2 hW0 hnx
            obtain ⟨j, G, of1, wf, rfl, hj, hSp, hWr, hnx, hdw, hdo⟩ := hrel
            by_cases hlt : j < k
            · obtain ⟨hpa, _, hPC, hPO⟩ := Hp.out (by omega)
              subst hpa
              have hPN := hPl (by omega)
              have hcp := (hSp.p (by omega)).cell hlt
              have hkl : j < pts.length := by rw [Hl.out]; exact hlt
              obtain ⟨p, hp⟩ : ∃ p, p = pts.getD j 0 := ⟨_, rfl⟩
              have HP : Hid (p = pts.getD j 0) := hp
              have hgp : Deal.Good p := by
                rw [hp]
                have : pts.getD j 0 = pts[j] := by simp [List.getD, hkl]
                rw [this]
                exact Hg.out _ (List.getElem_mem hkl)
              rw [← hp] at hcp
              clear hp
              obtain ⟨hp0, hp1, hp2⟩ := hgp
              have hgp : Hid (Deal.Good p) := ⟨hp0, hp1, hp2⟩
              have hb : bits .and .u64 (p / 4294967296) 2047 = ((d0 p : Nat) : Int) := by rw [mask11 _ (by omega) (by omega), d0_cast]
              have hv := d0_lt p
              generalize hv0 : d0 p = v at hb hv
              have HV : Hid (dg 0 (pts.getD j 0) = v) := by rw [← HP.out]; exact hv0
              clear hv0
              have hce := hSp.nx.cell (o := v) (d := 0) (v := v) (by omega) (by omega) hv
              have hfr := Row.frozen hSp.nx v
              obtain ⟨X, hX, hXl, hXe⟩ := nx_place hnx hkl HV.out hv
              rw [hX] at hce
              have HX : Hid (G 0 v = (X : Int)) := hX
              have HXe : Hid (X = lo d0 pts (d0 (pts.getD j 0)) + cf d0 (pts.take j) (d0 (pts.getD j 0))) := hXe
              rw [Hl.out] at hXl
              clear hX hXe
              have hc3 := hSp.c.cell 3
              simp only [List.getElem?_cons_succ, List.getElem?_cons_zero] at hc3
              have hcW := hWr.cell hXl
              have hfW := Row.frozen hWr X
              have hcO := hSp.o.cell hXl
              have hfO := Row.frozen hSp.o X
              generalize hy1 : wf X = y1 at hcW
              generalize hy2 : of1 X = y2 at hcO
              clear hy1 hy2
              go_wp2_with fail
              go_region
              all_goals go_wp2_with fail
              all_goals go_roundw
              case rel =>
                obtain ⟨hS9, hW9⟩ := hSp.deal hWr (X := X) (o := v) (d := 0) (v := v) (a := p / 4294967296) (b := IntKind.u16.wrap p) (x := (X : Int) + 1) HN.out hCl hOl (fun _ => ⟨hPN, hPC, hPO⟩) hCO hNW (by omega) hv
                exact ⟨j + 1, _, _, _, by go_num, by omega, hS9, hW9, nx_step hnx hkl HV.out hv HX.out, dealt_at hdw hkl HXe (by rw [← HP.out]; rfl), dealt_at hdo hkl HXe (by rw [← HP.out, wrap16])⟩
              case measure => simp [intOf]; omega
            · have hjk : j = k := by omega
              subst hjk
              have hof := full_l1 hdo Hl.out
              have hwf := full_l1 hdw Hl.out
              replace hWr := hWr.congr hwf
              replace hSp := hSp.own_congr hof
              replace hnx := nx_l1 hnx
              clear hof hwf hdw hdo hlt hj
              have Hl1 : Hid ((l1 pts).length = j) := by show _ = _; rw [len_l1]; exact Hl.out
              have Hg1 : Hid (∀ p ∈ l1 pts, Deal.Good p) := good_l1 Hg.out
              go_wp2_with fail
              go_loopw [157] (fun iv wr => ∃ (m : Nat) (G : Nat → Nat → Int) (pf1 : Nat → Int), iv = .int .i64 m ∧ m ≤ j ∧ Sp w wr C O P N j [.slice none 0 0, .slice none 0 0, .slice none 0 0, .slice (some ⟨O, 0, none⟩) j j, nv, .int .i64 0] pf1 (fun i => own ((l1 pts).getD i 0)) G ∧ FRow wr W 36 .u32 j (fun i => pos ((l1 pts).getD i 0)) ∧ Hid (Nx 1 (l1 pts) m pts G) ∧ Hid (Dealt d1 2048 (l1 pts) m id pf1)) (fun iv _ => j - (intOf iv).toNat)
              case atStart => exact ⟨0, G, _, rfl, by omega, hSp, hWr, hnx, dealt_zero _ _ _ _ _⟩
              case round =>
                clear hSp hWr hnx
                obtain ⟨m, G, pf1, rfl, hm, hSp, hWr, hnx, hdp⟩ := hrel
                by_cases hlt : m < j
                · obtain ⟨hpa, _, hPC, hPO⟩ := Hp.out (by omega)
                  subst hpa
                  have hPN := hPl (by omega)
                  have hkl : m < (l1 pts).length := by rw [Hl1.out]; exact hlt
                  have hcw := hWr.cell hlt
                  have hco := hSp.o.cell hlt
                  have hgp := good_at Hg1.out hkl
                  obtain ⟨p, hp⟩ : ∃ p, p = (l1 pts).getD m 0 := ⟨_, rfl⟩
                  rw [← hp] at hcw hco hgp
                  have HP : Hid (p = (l1 pts).getD m 0) := hp
                  clear hp
                  have hpos := pos_bd hgp
                  have hown := own_bd p
                  have hd1 := d1_pos p
                  have hv := d1_lt p
                  have hpt : Hid (pos p * 4294967296 + own p = p) := (point_of hgp).symm
                  generalize hv0 : d1 p = v at hd1 hv
                  have HV : Hid (dg 1 ((l1 pts).getD m 0) = v) := by rw [← HP.out]; exact hv0
                  clear hv0
                  generalize hA : pos p = A at hcw hpos hd1 hpt
                  generalize hB : own p = B at hco hown hpt
                  clear hA hB
                  obtain ⟨hA0, hA1⟩ := hpos
                  obtain ⟨hB0, hB1⟩ := hown
                  have hb : bits .and .u32 (A / 2048) 2047 = (v : Int) := by rw [mask11u _ (by omega) (by omega), hd1]
                  clear hd1
                  have hce := hSp.nx.cell (o := 2048 + v) (d := 1) (v := v) (by omega) (by omega) hv
                  have hfr := Row.frozen hSp.nx (2048 + v)
                  obtain ⟨X, hX, hXl, hXe⟩ := nx_place hnx hkl HV.out hv
                  rw [hX] at hce
                  have HX : Hid (G 1 v = (X : Int)) := hX
                  have HXe : Hid (X = lo d1 (l1 pts) (d1 ((l1 pts).getD m 0)) + cf d1 ((l1 pts).take m) (d1 ((l1 pts).getD m 0))) := hXe
                  rw [Hl1.out] at hXl
                  clear hX hXe
                  have hc3 := hSp.c.cell 3
                  simp only [List.getElem?_cons_succ, List.getElem?_cons_zero] at hc3
                  have hNP : N ≠ P := by omega
                  have hPN2 : P ≠ N := by omega
                  have hwB : IntKind.i64.wrap B = B := by rw [IntKind.wrap_i64]; omega
                  have hcP := (hSp.p (by omega)).cell hXl
                  have hfP := Row.frozen (hSp.p (by omega)) X
                  generalize hy1 : pf1 X = y1 at hcP
                  clear hy1
                  go_wp2_with fail
                  go_region_held3 (fun w' => w'.cell? ⟨N, 2048 + v, none⟩ = some (.int .i64 X) ∧ w'.cell? ⟨C, 3, none⟩ = some (.slice (some ⟨O, 0, none⟩) j j) ∧ w'.cell? ⟨O, m, none⟩ = some (.int .u16 B)) (go_keep) (first | (go_at_call 31; refine (point_any A B _ hA0 hA1 hB0 hB1).mono ?_; rintro e w' ⟨rfl, rfl⟩))
                  all_goals go_wp2_with fail
                  all_goals go_roundw
                  case rel =>
                    obtain ⟨hS9, hW9⟩ := hSp.back hWr (X := X) (o := 2048 + v) (d := 1) (v := v) (a := A * 4294967296 + B) (x := (X : Int) + 1) HN.out hCl hOl ⟨hPN, hPC, hPO⟩ hNW (by omega) hv
                    exact ⟨m + 1, _, _, by go_num, by omega, hS9, hW9, nx_step hnx hkl HV.out hv HX.out, dealt_at hdp hkl HXe (by rw [← HP.out]; exact hpt.out)⟩
                  case measure => simp [intOf]; omega
                · have hmj : m = j := by omega
                  subst hmj
                  have hpf := full_l2 hdp Hl.out
                  replace hSp := hSp.pt_congr hpf
                  replace hnx := nx_l2 hnx
                  clear hpf hdp hlt hm
                  have Hl2 : Hid ((l2 pts).length = m) := by show _ = _; rw [len_l2]; exact Hl.out
                  have Hg2 : Hid (∀ p ∈ l2 pts, Deal.Good p) := good_l2 Hg.out
                  have hc0 := hSp.c.cell 0
                  simp only [List.getElem?_cons_zero] at hc0
                  have hfc := Row.frozen hSp.c 0
                  have hSp9 := hSp.wide (.slice (some ⟨W, 0, none⟩) m m) (by omega) hCO (fun h0 => (Hp.out h0).2.2.1)
                  have hW9 := Row.other hWr (⟨C, 0, none⟩ : Addr) (.slice (some ⟨W, 0, none⟩) m m) (by simp; omega)
                  go_wp2_with fail
                  clear hSp hWr hc0 hfc
                  go_loopw [196] (fun iv wr => ∃ (q : Nat) (G : Nat → Nat → Int) (of2 wf2 : Nat → Int), iv = .int .i64 q ∧ q ≤ m ∧ Sp w wr C O P N m [.slice (some ⟨W, 0, none⟩) m m, .slice none 0 0, .slice none 0 0, .slice (some ⟨O, 0, none⟩) m m, nv, .int .i64 0] (fun i => (l2 pts).getD i 0) of2 G ∧ FRow wr W 36 .u32 m wf2 ∧ Hid (Nx 2 (l2 pts) q pts G) ∧ Hid (Dealt d2 2048 (l2 pts) q pos wf2) ∧ Hid (Dealt d2 2048 (l2 pts) q own of2)) (fun iv _ => m - (intOf iv).toNat)
                  case atStart => exact ⟨0, G, _, _, rfl, by omega, hSp9, hW9, hnx, dealt_zero _ _ _ _ _, dealt_zero _ _ _ _ _⟩
                  case round =>
                    clear hSp9 hW9 hnx
                    obtain ⟨q, G, of2, wf2, rfl, hq, hSp, hWr, hnx, hdw, hdo⟩ := hrel
                    by_cases hlt : q < m
                    · obtain ⟨hpa, _, hPC, hPO⟩ := Hp.out (by omega)
                      subst hpa
                      have hPN := hPl (by omega)
                      have hcp := (hSp.p (by omega)).cell hlt
                      have hkl : q < (l2 pts).length := by rw [Hl2.out]; exact hlt
                      have hgp := good_at Hg2.out hkl
                      obtain ⟨p, hp⟩ : ∃ p, p = (l2 pts).getD q 0 := ⟨_, rfl⟩
                      rw [← hp] at hcp hgp
                      have HP : Hid (p = (l2 pts).getD q 0) := hp
                      clear hp
                      obtain ⟨hp0, hp1, hp2⟩ := hgp
                      have hgp : Hid (Deal.Good p) := ⟨hp0, hp1, hp2⟩
                      have hb := d2_cast hp0
                      have hv := d2_lt hgp.out
                      generalize hv0 : d2 p = v at hb hv
                      have HV : Hid (dg 2 ((l2 pts).getD q 0) = v) := by rw [← HP.out]; exact hv0
                      clear hv0
                      replace hb := hb.symm
                      have hce := hSp.nx.cell (o := 4096 + v) (d := 2) (v := v) (by omega) (by omega) hv
                      have hfr := Row.frozen hSp.nx (4096 + v)
                      obtain ⟨X, hX, hXl, hXe⟩ := nx_place hnx hkl HV.out hv
                      rw [hX] at hce
                      have HX : Hid (G 2 v = (X : Int)) := hX
                      have HXe : Hid (X = lo d2 (l2 pts) (d2 ((l2 pts).getD q 0)) + cf d2 ((l2 pts).take q) (d2 ((l2 pts).getD q 0))) := hXe
                      rw [Hl2.out] at hXl
                      clear hX hXe
                      have hc3 := hSp.c.cell 3
                      have hc0 := hSp.c.cell 0
                      simp only [List.getElem?_cons_succ, List.getElem?_cons_zero] at hc3 hc0
                      have hcW := hWr.cell hXl
                      have hfW := Row.frozen hWr X
                      have hcO := hSp.o.cell hXl
                      have hfO := Row.frozen hSp.o X
                      generalize hy1 : wf2 X = y1 at hcW
                      generalize hy2 : of2 X = y2 at hcO
                      clear hy1 hy2
                      go_wp2_with fail
                      go_region
                      all_goals go_wp2_with fail
                      all_goals go_roundw
                      case rel =>
                        obtain ⟨hS9, hW9⟩ := hSp.deal hWr (X := X) (o := 4096 + v) (d := 2) (v := v) (a := p / 4294967296) (b := IntKind.u16.wrap p) (x := (X : Int) + 1) HN.out hCl hOl (fun _ => ⟨hPN, hPC, hPO⟩) hCO hNW (by omega) hv
                        exact ⟨q + 1, _, _, _, by go_num, by omega, hS9, hW9, nx_step hnx hkl HV.out hv HX.out, dealt_at hdw hkl HXe (by rw [← HP.out]; rfl), dealt_at hdo hkl HXe (by rw [← HP.out, wrap16])⟩
                      case measure => simp [intOf]; omega
                    · have hqm : q = m := by omega
                      subst hqm
                      have hof := full_l3 Hg.out hdo Hl.out
                      have hwf := full_l3 Hg.out hdw Hl.out
                      replace hWr := hWr.congr hwf
                      replace hSp := hSp.own_congr hof
                      have hWl : w.heap.size ≤ W := by have := HN.out; omega
                      have hfin : Sorted' w wr C O P q nv pts := ⟨W, hWl, hSp.c, hWr, hSp.o, hSp.keep⟩
                      clear hof hwf hdw hdo hlt hq hSp hWr hnx
                      go_wp2_with fail
                      exact bodyPost_ret (v := .tuple #[]) (by simp [results, Trym.results27, go_sem]) rfl ⟨rfl, hfin⟩
end Go.Proofs.Qxb6000402aMods
