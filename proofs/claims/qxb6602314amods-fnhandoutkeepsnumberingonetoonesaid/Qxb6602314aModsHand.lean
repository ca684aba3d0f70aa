import Derived.Test.Qxb6602314aModsStrs
namespace Go.Proofs.Qxb6602314aMods
open Go.RowKit Go.Maps
set_option linter.unusedVariables false

/-! ### plain -/
/-- The names that g lacks, in order. -/
def lack (g : ByteArray → Option Int) (fs : Nat → ByteArray) : Nat → List ByteArray
  | 0 => []
  | i + 1 => lack g fs i ++ (if (g (fs i)).isSome then [] else [fs i])
theorem lack_length (g : ByteArray → Option Int) (fs : Nat → ByteArray) : ∀ i, (lack g fs i).length ≤ i
  | 0 => Nat.le_refl _
  | i + 1 => by
    have := lack_length g fs i
    simp only [lack, List.length_append]
    split <;> simp <;> omega
theorem lack_nil {g : ByteArray → Option Int} {fs : Nat → ByteArray} : ∀ {i}, lack g fs i = [] ↔ ∀ j, j < i → (g (fs j)).isSome = true
  | 0 => by simp [lack]
  | i + 1 => by
    simp only [lack, List.append_eq_nil_iff, lack_nil (i := i)]
    constructor
    · intro ⟨h1, h2⟩ j hj
      by_cases e : j = i
      · subst e
        cases h : (g (fs j)).isSome
        · rw [h] at h2; simp at h2
        · rfl
      · exact h1 j (by omega)
    · intro h
      exact ⟨fun j hj => h j (by omega), by rw [h i (by omega)]; rfl⟩
theorem lack_some {g : ByteArray → Option Int} {fs : Nat → ByteArray} {i : Nat} {x : Int} (h : g (fs i) = some x) : lack g fs (i + 1) = lack g fs i := by simp [lack, h]
theorem lack_none {g : ByteArray → Option Int} {fs : Nat → ByteArray} {i : Nat} (h : g (fs i) = none) : lack g fs (i + 1) = lack g fs i ++ [fs i] := by simp [lack, h]

def InjF (g : ByteArray → Option Int) : Prop := ∀ s s' x, g s = some x → g s' = some x → s = s'
theorem InjF.upd {g : ByteArray → Option Int} (h : InjF g) {s : ByteArray} {x : Int} (hx : ∀ t, g t ≠ some x) : InjF (upd g s x) := by
  intro t t' y h1 h2
  by_cases e : t = s <;> by_cases e' : t' = s
  · rw [e, e']
  · subst e
    rw [upd_same] at h1; rw [upd_other g x e'] at h2
    injection h1 with h1
    subst h1
    exact absurd h2 (hx _)
  · subst e'
    rw [upd_same] at h2; rw [upd_other g x e] at h1
    injection h2 with h2
    subst h2
    exact absurd h1 (hx _)
  · rw [upd_other g x e] at h1; rw [upd_other g x e'] at h2
    exact h _ _ _ h1 h2
theorem Fine.upd {g : ByteArray → Option Int} (h : Fine g) {s : ByteArray} {x : Int} (hs : s.size ≤ 1048576) (hx : (Lit.int .i64 x).wf = true) : Fine (upd g s x) := by
  intro t y h1
  by_cases e : t = s
  · subst e; rw [upd_same] at h1; injection h1 with h1; subst h1; exact ⟨hs, hx⟩
  · rw [upd_other g x e] at h1; exact h t y h1

/-- As many keys as are there, there are entries. -/
theorem pigeon : ∀ (j : Nat) (D : DataW Unit) (key : Nat → Lit), Tidy D → (∀ i, i < j → Maps.has D (key i) = true) → (∀ i i', i < j → i' < j → key i = key i' → i = i') → j ≤ Maps.size D
  | 0, _, _, _, _, _ => Nat.zero_le _
  | j + 1, D, key, ht, hh, hi => by
    have h1 := size_del (k := key j) ht
    rw [hh j (by omega)] at h1
    have h2 := pigeon j (D.del (key j)) key (ht.del _) (fun i hlt => by
      rw [has_del_other (fun e => by have := hi i j (by omega) (by omega) e; omega)]
      exact hh i (by omega)) (fun i i' h3 h4 h5 => hi i i' (by omega) (by omega) h5)
    simp at h1
    omega

theorem wf64 {x : Int} : (Lit.int .i64 x).wf = true ↔ -9223372036854775808 ≤ x ∧ x ≤ 9223372036854775807 := by
  have e1 : IntKind.i64.min = -9223372036854775808 := by decide
  have e2 : IntKind.i64.max = 9223372036854775807 := by decide
  simp [Lit.wf, e1, e2]
theorem wrap_next {x : Int} (h : (Lit.int .i64 x).wf = true) : (Lit.int .i64 (wrap64 (x + 1))).wf = true ∧ (wrap64 (x + 1) - (x + 1)) % 18446744073709551616 = 0 := by
  rw [wf64] at h ⊢
  unfold wrap64
  omega
/-- A walk that has met j numbers in turn, all taken. -/
theorem met {w : World} {B K j : Nat} {T : Int → Prop} (h : IB w B K T) {nx : Int} (hn : (Lit.int .i64 nx).wf = true) (hj : j ≤ 1099511627776) (hv : ∀ x, (Lit.int .i64 x).wf = true → (x - nx) % 18446744073709551616 < j → T x) : j ≤ K := by
  obtain ⟨D, h1, h2⟩ := h
  refine Nat.le_trans (pigeon j D (fun i => li (if nx + i ≤ 9223372036854775807 then nx + i else nx + i - 18446744073709551616)) (h1.tidy lawI) ?_ ?_) h1.size_le
  · intro i hi
    rw [h2.1, tv_li]
    rw [wf64] at hn
    rw [if_pos]
    · rfl
    · apply hv
      · rw [wf64]; split <;> omega
      · split <;> omega
  · intro i i' hi hi' e
    have e := li_inj e
    rw [wf64] at hn
    split at e <;> split at e <;> omega

/-- A slice's block is no map's. -/
theorem apart_map {w : World} {B n b off : Nat} {f : ByteArray → Option Int} {v : Value} (h : SI w B n f) (hc : w.cell? ⟨b, off, none⟩ = some v) : b ≠ B := by
  intro e
  subst e
  obtain ⟨D, ⟨es, clock, hb, _⟩, _⟩ := h
  simp [World.cell?, hb] at hc

theorem MapAt.mono {w : World} {K E : TypeId} {B n n' : Nat} {f : Lit → Option Lit} (h : MapAt w K E B n f) (hn : n ≤ n') : MapAt w K E B n' f := by
  obtain ⟨D, h1, h2⟩ := h
  exact ⟨D, h1.mono hn, h2⟩

/-- How it stands ahead of name i. -/
structure HO (w : World) (B N : Nat) (f0 : ByteArray → Option Int) (fs : Nat → ByteArray) (hi : Int) (wr : World) (i : Nat) (nx : Int) (v : Value) (g : ByteArray → Option Int) (T : Int → Prop) : Prop where
  own : Owns (w.heap.size + 1) wr v (lack g fs i)
  got : SI wr B (N + i) g
  tak : IB wr w.heap.size (N + i) T
  val : ∀ x, T x ↔ ∃ s, g s = some x
  fine : Fine g
  inj : InjF g
  ext : ∀ s x, f0 s = some x → g s = some x
  stop : lack g fs i ≠ [] → hi ≤ nx ∧ ¬ T nx
  keeps : Keeps [B] w wr
  size : w.heap.size + 1 ≤ wr.heap.size
  nxw : (Lit.int .i64 nx).wf = true
theorem HO.skip {w : World} {B N : Nat} {f0 : ByteArray → Option Int} {fs : Nat → ByteArray} {hi : Int} {wr : World} {i : Nat} {nx : Int} {v : Value} {g : ByteArray → Option Int} {T : Int → Prop} (h : HO w B N f0 fs hi wr i nx v g T) {x : Int} (hx : g (fs i) = some x) : HO w B N f0 fs hi wr (i + 1) nx v g T :=
  ⟨by rw [lack_some hx]; exact h.own, MapAt.mono h.got (by omega), MapAt.mono h.tak (by omega), h.val, h.fine, h.inj, h.ext, by rw [lack_some hx]; exact h.stop, h.keeps, h.size, h.nxw⟩
theorem HO.left {w : World} {B N : Nat} {f0 : ByteArray → Option Int} {fs : Nat → ByteArray} {hi : Int} {wr w' : World} {i : Nat} {nx nx' : Int} {v v' : Value} {g : ByteArray → Option Int} {T : Int → Prop} (h : HO w B N f0 fs hi wr i nx v g T) (hx : g (fs i) = none) (hB : B < w.heap.size)
    (hw : (Lit.int .i64 nx').wf = true) (hT : ¬ T nx') (hge : hi ≤ nx') (ho : Owns (w.heap.size + 1) w' v' (lack g fs i ++ [fs i])) (hg : wr.grownBy w' v.ownBlock) : HO w B N f0 fs hi w' (i + 1) nx' v' g T := by
  have hap : ∀ k, k < w.heap.size + 1 → k ∉ v.ownBlock.toList := by
    intro k hk hmem
    rcases Owns.apart h.own hk with e | e
    · rw [e] at hmem; simp at hmem
    · simp at hmem; exact e hmem
  refine ⟨by rw [lack_none hx]; exact ho, MapAt.mono (MapAt.kept h.got (Keeps.ofGrown hg) (hap B (by omega))) (by omega), MapAt.mono (MapAt.kept h.tak (Keeps.ofGrown hg) (hap _ (by omega))) (by omega), h.val, h.fine, h.inj, h.ext, fun _ => ⟨hge, hT⟩, ?_, Nat.le_trans h.size hg.size, hw⟩
  refine h.keeps.grown hg (fun j hj => .inl ?_)
  have := (World.ownsRow.lt h.own j hj).1
  omega
theorem HO.given {w : World} {B N : Nat} {f0 : ByteArray → Option Int} {fs : Nat → ByteArray} {hi : Int} {wr w1 w2 : World} {i : Nat} {nx nx' : Int} {v : Value} {g : ByteArray → Option Int} {T : Int → Prop} (h : HO w B N f0 fs hi wr i nx v g T) (hx : g (fs i) = none) (hB : B < w.heap.size)
    (hs : (fs i).size ≤ 1048576) (hw : (Lit.int .i64 nx').wf = true) (hT : ¬ T nx') (hlt : nx' < hi) (hsame : ¬ T nx → nx' = nx) (h1 : SI w1 B (N + i + 1) (upd g (fs i) nx')) (g1 : wr.grownBy w1 (some B)) (h2 : IB w2 w.heap.size (N + i + 1) (fun y => y = nx' ∨ T y)) (g2 : w1.grownBy w2 (some w.heap.size)) :
    HO w B N f0 fs hi w2 (i + 1) nx' v (upd g (fs i) nx') (fun y => y = nx' ∨ T y) := by
  have hnil : lack g fs i = [] := by
    by_cases e : lack g fs i = []
    · exact e
    · obtain ⟨h3, h4⟩ := h.stop e
      have := hsame h4
      omega
  have hnil2 : lack (upd g (fs i) nx') fs (i + 1) = [] := by
    rw [lack_nil] at hnil ⊢
    intro j hj
    by_cases e : fs j = fs i
    · rw [e, upd_same]; rfl
    · rw [upd_other g nx' e]
      by_cases e2 : j = i
      · subst e2; exact absurd rfl e
      · exact hnil j (by omega)
  refine ⟨?_, MapAt.kept h1 (Keeps.ofGrown g2) (by simp; omega), h2, ?_, h.fine.upd hs hw, h.inj.upd (fun t e => hT ((h.val _).2 ⟨t, e⟩)), ?_, fun e => absurd hnil2 e, (h.keeps.grown g1 (by intro j hj; cases hj; exact .inr (by simp))).grown g2 (by intro j hj; cases hj; exact .inl (Nat.le_refl _)), Nat.le_trans (Nat.le_trans h.size g1.size) g2.size, hw⟩
  · rw [hnil2]
    have := h.own
    rw [hnil] at this
    exact Owns.kept (Owns.kept this g1 (Owns.apart this (by omega))) g2 (Owns.apart (Owns.kept this g1 (Owns.apart this (by omega))) (by omega))
  · intro x
    constructor
    · rintro (e | e)
      · subst e; exact ⟨fs i, upd_same _ _ _⟩
      · obtain ⟨s, hs⟩ := (h.val x).1 e
        exact ⟨s, by rw [upd_other g nx' (fun e2 => by subst e2; rw [hx] at hs; cases hs)]; exact hs⟩
    · rintro ⟨s, hs⟩
      by_cases e : s = fs i
      · subst e; rw [upd_same] at hs; injection hs with hs; exact .inl hs.symm
      · rw [upd_other g nx' e] at hs; exact .inr ((h.val x).2 ⟨s, hs⟩)
  · intro s x e
    have := h.ext s x e
    rw [upd_other g nx' (fun e2 => by subst e2; rw [hx] at this; cases this)]
    exact this

set_option maxHeartbeats 4000000 in
theorem handOut_any (B N : Nat) (f0 : ByteArray → Option Int) (a : Option Addr) (m c : Nat) (fs : Nat → ByteArray) (lo hi : Int) (w : World) (hN : N ≤ 1048576) (hm : m ≤ 1048576) (h : Hid (SI w B N f0)) (hfine : Hid (Fine f0)) (hinj : Hid (InjF f0))
    (hns : Hid (NmsIn w a m fs)) (hsz : Hid (∀ j, j < m → (fs j).size ≤ 1048576)) (hlo : Hid ((Lit.int .i64 lo).wf = true)) (hhi : Hid ((Lit.int .i64 hi).wf = true)) :
    Calls Trym.prog 31 #[.map (some B), .slice a m c, .int .i64 lo, .int .i64 hi] w fun e w' => ∃ v g, e = .returned v ∧ Hid (StrsAt w' v (lack g fs m)) ∧ Hid (SI w' B 2097152 g) ∧ Hid (Fine g) ∧ Hid (InjF g) ∧ Hid (∀ s x, f0 s = some x → g s = some x) ∧ Keeps [B] w w' := by
  have hmm := fun (n : Int) (w : World) => run_makeMap_hint Trym.underlying62 n w
  obtain ⟨m0, hm0, hlen, _⟩ := MapAt.len (t := 27) h.out h.out lawS Trym.underlying27
  have hBw := MapAt.lt h.out
  have hsi : SI (w.alloc (.map #[] 0)) B N f0 := MapAt.kept h.out ((Keeps.refl [] w).alloc _) (by simp)
  go_enter Trym.func31, Trym.ntmps31
  go_wp2_with (first
    | (at_range; refine wpList_range_si _ rfl _ rfl B N f0 rfl hsi ?_; intro w0 cnt0 hsr0 hcnt0 hg0 hs0)
    | go_in)
  have hsz0 : (w.alloc (.map #[] 0)).heap.size = w.heap.size + 1 := by simp
  rw [hsz0] at hsr0 hs0
  rw [hsz0]
  clear hsz0
  go_frame
  go_loopw [11] (fun _ wr => Keeps [] w wr ∧ w.heap.size + 2 ≤ wr.heap.size ∧ ∃ L cnt, SR wr B (w.heap.size + 1) N f0 L cnt ∧ ∃ T k, IB wr w.heap.size k T ∧ (∀ x, T x ↔ ∃ s, f0 s = some x ∧ ¬ L s) ∧ k + cnt ≤ N) (fun _ wr => wr.rangeLeft B (w.heap.size + 1))
  case atStart =>
    refine ⟨((Keeps.refl [] w).alloc _).grown hg0 (by simp), by omega, _, cnt0, hsr0, fun _ => False, 0, MapAt.kept (IB.made w) (Keeps.ofGrown hg0) (by simp), ?_, by omega⟩
    intro x
    constructor
    · exact False.elim
    · rintro ⟨s, h1, h2⟩
      rw [h1] at h2
      simp at h2
  case round =>
    clear hg0 hs0 hsr0 hcnt0 hlen hmm hsi
    obtain ⟨hk1, hsz1, L, cnt, hsr, T, k, hib, hT, hkk⟩ := hrel
    go_wp2_with (first
      | (at_next; refine wpList_next_si _ rfl _ rfl B (w.heap.size + 1) N f0 L cnt rfl hsr ?_ ?_)
      | go_in)
    · intro hL
      obtain ⟨wl, hwl⟩ : ∃ x, x = wr := ⟨_, rfl⟩
      subst hwl
      have ho0 : HO w B N f0 fs hi wl 0 lo (.slice none 0 0) f0 T := ⟨Owns.nil _ _, hsr.si, MapAt.mono hib (by omega), fun x => (hT x).trans ⟨fun ⟨s, h1, _⟩ => ⟨s, h1⟩, fun ⟨s, h1⟩ => ⟨s, h1, hL s⟩⟩, hfine.out, hinj.out, fun _ _ e => e, fun e => absurd rfl e, hk1.more (by simp), by omega, hlo.out⟩
      clear hT hib hsr hkk
      go_wp2_with fail
      go_loopw [8, 12, 31] (fun vv nv iv wr => ∃ (i : Nat) (nx : Int) (g : ByteArray → Option Int) (T : Int → Prop), nv = .int .i64 nx ∧ iv = .int .i64 i ∧ i ≤ m ∧ HO w B N f0 fs hi wr i nx vv g T) (fun _ _ iv _ => m - (intOf iv).toNat)
      case atStart => exact ⟨0, lo, f0, T, rfl, rfl, by omega, ho0⟩
      case round =>
        clear ho0 T
        obtain ⟨i, nx, g, T, rfl, rfl, hile, ho⟩ := hrel
        obtain ⟨v, hv⟩ : ∃ v, v = u8 := ⟨_, rfl⟩
        subst hv
        have hown0 := ho.own
        by_cases hlt : i < m
        · obtain ⟨b, off, hx, hb, hc⟩ := hns.out (by omega)
          subst hx
          have hci := hc i hlt
          have hbB : b ≠ B := apart_map h.out hci
          have hci : wr.cell? ⟨b, off + i, none⟩ = some (.string (fs i)) := (World.cell?_of_block (a := ⟨b, off + i, none⟩) (ho.keeps.block b hb (by simp; exact hbB))).trans hci
          have hsi := hsz.out i hlt
          have hsi1 : (fs i).size ≤ maxLen := Nat.le_trans hsi (by unfold maxLen; omega)
          obtain ⟨y, hy⟩ : ∃ y, Hid (fs i = y) := ⟨fs i, (by show _ = _; rfl)⟩
          rw [hy.out] at hci hsi hsi1
          clear hc
          cases hgy : g y with
          | some x =>
            have q1 := SI.yes ho.got hsi1 hgy
            go_wp2_with fail
            go_roundw
            case rel => exact ⟨i + 1, nx, g, T, rfl, by go_num, by omega, ho.skip (by rw [hy.out]; exact hgy)⟩
            case measure => simp [intOf]; omega
          | none =>
            have q1 := SI.no ho.got hsi1 hgy
            go_wp2_with fail
            go_loop [12] (fun nv => ∃ (nx' : Int) (j : Nat), nv = .int .i64 nx' ∧ (Lit.int .i64 nx').wf = true ∧ Hid ((nx' - nx) % 18446744073709551616 = j) ∧ j ≤ N + i ∧ ∀ x, (Lit.int .i64 x).wf = true → (x - nx) % 18446744073709551616 < j → T x) (fun nv => N + i + 1 - ((intOf nv - nx) % 18446744073709551616).toNat)
            case atStart => exact ⟨nx, 0, rfl, ho.nxw, (by show _ = _; omega), by omega, fun x _ hx => by omega⟩
            case round =>
              obtain ⟨nx', j, rfl, hw, hj, hjle, hv⟩ := hrel
              by_cases hTn : T nx'
              · have q2 := IB.yes ho.tak hw hTn
                have hv1 : ∀ x, (Lit.int .i64 x).wf = true → (x - nx) % 18446744073709551616 < (j + 1 : Nat) → T x := by
                  intro x hxw hx
                  by_cases e : (x - nx) % 18446744073709551616 < j
                  · exact hv x hxw e
                  · have e2 : x = nx' := by
                      have := hj.out
                      rw [wf64] at hw hxw
                      omega
                    rw [e2]; exact hTn
                have hj1 : j + 1 ≤ N + i := met ho.tak ho.nxw (by omega) hv1
                go_wp2_with fail
                obtain ⟨y1, hy1⟩ : ∃ y1, y1 = wrap64 (nx' + 1) := ⟨_, rfl⟩
                have hy2 := wrap_next hw
                rw [← hy1] at hy2 ⊢
                clear hy1
                have hj0 := hj.out
                have hj2 : (y1 - nx) % 18446744073709551616 = (j + 1 : Nat) := by omega
                refine ⟨⟨y1, j + 1, rfl, hy2.1, hj2, hj1, hv1⟩, ?_⟩
                simp only [intOf]
                rw [hj2, hj0]
                omega
              · have q2 := IB.no ho.tak hw hTn
                have hsame : ¬ T nx → nx' = nx := by
                  intro hn
                  have h0 : ¬ (0 : Nat) < j := fun h0 => hn (hv nx ho.nxw (by omega))
                  have := hj.out
                  have hnw := ho.nxw
                  rw [wf64] at hw hnw
                  omega
                by_cases hge : hi ≤ nx'
                · go_wp2_with (at_builtin; refine app_one _ rfl _ _ rfl (w.heap.size + 1) v (lack g fs i) y (by rfl) hown0 (by rfl) (Nat.le_trans (lack_length _ _ _) (by omega)) ho.size ?_; intro v1 w1 hown hgr)
                  go_roundw
                  case rel => exact ⟨i + 1, nx', g, T, rfl, by go_num, by omega, ho.left (by rw [hy.out]; exact hgy) hBw hw hTn hge (by rw [hy.out]; exact hown) hgr⟩
                  case measure => simp [intOf]; omega
                · obtain ⟨w1, r1, m1, g1⟩ := SI.store ho.got (by unfold maxLen; omega) (s := y) (v := nx') hsi1 hw
                  obtain ⟨w2, r2, m2, g2⟩ := IB.store (MapAt.kept ho.tak (Keeps.ofGrown g1) (by simp; omega)) (by unfold maxLen; omega) (x := nx') hw
                  have ho2 := ho.given (by rw [hy.out]; exact hgy) hBw (by rw [hy.out]; exact hsi) hw hTn (by omega) hsame (by rw [hy.out]; exact m1) g1 m2 g2
                  clear m1 g1 m2 g2
                  go_wp2_with fail
                  go_roundw
                  case rel => exact ⟨i + 1, nx', _, _, rfl, by go_num, by omega, ho2⟩
                  case measure => simp [intOf]; omega
        · have e : i = m := by omega
          subst e
          have r1 : Hid (StrsAt wr v (lack g fs i)) := ho.own.strs
          have r2 : Hid (SI wr B 2097152 g) := MapAt.mono ho.got (by omega)
          have r3 : Hid (Fine g) := ho.fine
          have r4 : Hid (InjF g) := ho.inj
          have r5 : Hid (∀ s x, f0 s = some x → g s = some x) := ho.ext
          have r6 := ho.keeps
          clear ho hown0
          go_wp2_with fail
          go_ret
          exact ⟨_, g, rfl, r1, r2, r3, r4, r5, r6⟩
    · intro s v w1 cnt1 hfs hLs hsr1 hcl hgr1 hen
      have hs2 := (hfine.out s v hfs).2
      have hib1 : IB w1 w.heap.size k T := MapAt.kept hib (Keeps.ofGrown hgr1) (by simp)
      obtain ⟨w2, r2, m2, g2⟩ := IB.store hib1 (by unfold maxLen; omega) (x := v) hs2
      have hsr2 := hsr1.kept g2 (by intro e; injection e; omega) (by intro e; injection e; omega)
      have hk2 := (hk1.grown hgr1 (by intro i hi; cases hi; exact .inl (by omega))).grown g2 (by intro i hi; cases hi; exact .inl (Nat.le_refl _))
      have hsz2 := Nat.le_trans (Nat.le_trans hsz1 hgr1.size) g2.size
      have hT2 : ∀ x, (x = v ∨ T x) ↔ ∃ t, f0 t = some x ∧ ¬ (L t ∧ t ≠ s) := by
        intro x
        constructor
        · rintro (e | e)
          · subst e; exact ⟨s, hfs, fun h3 => h3.2 rfl⟩
          · obtain ⟨t, h1, h2⟩ := (hT x).1 e
            exact ⟨t, h1, fun h3 => h2 h3.1⟩
        · rintro ⟨t, h1, h2⟩
          by_cases e : t = s
          · subst e; rw [hfs] at h1; injection h1 with h1; exact .inl h1.symm
          · exact .inr ((hT x).2 ⟨t, h1, fun h3 => h2 ⟨h3, e⟩⟩)
      clear hgr1 g2 hib1 hT
      go_wp2_with fail
      go_roundw
      case rel => exact ⟨hk2, hsz2, _, cnt1, hsr2, _, _, m2, hT2, by omega⟩
      case measure => rw [hsr2.left_eq, hsr.left_eq]; exact hcl
end Go.Proofs.Qxb6602314aMods
