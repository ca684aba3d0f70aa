import Derived.Test.Qxb6602314aModsGot
namespace Go.Proofs.Qxb6602314aMods
open Go.RowKit Go.Maps
set_option linter.unusedVariables false

/-- The maps handed over lie in a row. -/
def MapsIn (w : World) (a : Option Addr) (n : Nat) (Bs : Nat → Nat) : Prop :=
  0 < n → ∃ b off, a = some ⟨b, off, none⟩ ∧ b < w.heap.size ∧ ∀ j, j < n → w.cell? ⟨b, off + j, none⟩ = some (.map (some (Bs j)))
def Fine (f : ByteArray → Option Int) : Prop := ∀ s v, f s = some v → s.size ≤ 1048576 ∧ (Lit.int .i64 v).wf = true
/-- One of the first n maps has it so. -/
def Among (n : Nat) (Fs : Nat → ByteArray → Option Int) (s : ByteArray) (v : Int) : Prop := ∃ j, j < n ∧ Fs j s = some v
/-- No key at two numbers, no number for two keys. -/
def Cons (n : Nat) (Fs : Nat → ByteArray → Option Int) : Prop := ∀ s s' v v', Among n Fs s v → Among n Fs s' v' → (s = s' ↔ v = v')

theorem str_ne {t s : ByteArray} (h : t ≠ s) : (!t.toList == s.toList) = true := by
  have : t.toList ≠ s.toList := fun e => h (by
    rw [ByteArray.toList_eq, ByteArray.toList_eq] at e
    exact WideShapes.bytes_inj e)
  simpa using this
def Inv (P : ByteArray → Int → Prop) (g : ByteArray → Option Int) (h : Int → Option ByteArray) : Prop := (∀ s v, g s = some v ↔ P s v) ∧ ∀ s v, h v = some s ↔ g s = some v
theorem Inv.congr {P Q : ByteArray → Int → Prop} {g : ByteArray → Option Int} {h : Int → Option ByteArray} (i : Inv P g h) (e : ∀ s v, P s v ↔ Q s v) : Inv Q g h := ⟨fun s v => (i.1 s v).trans (e s v), i.2⟩
theorem Inv.step {P : ByteArray → Int → Prop} {g : ByteArray → Option Int} {h : Int → Option ByteArray} (i : Inv P g h) {key : ByteArray} {v : Int} (hc : g key = some v ∨ (g key = none ∧ h v = none)) :
    Inv (fun s x => P s x ∨ (s = key ∧ x = v)) (upd g key v) (upd h v key) := by
  constructor
  · intro s x
    by_cases e : s = key
    · subst e
      rw [upd_same]
      constructor
      · intro h1; injection h1 with h1; exact .inr ⟨rfl, h1.symm⟩
      · rintro (h1 | ⟨_, h1⟩)
        · rw [← i.1] at h1
          rcases hc with h2 | ⟨h2, _⟩ <;> rw [h2] at h1
          · exact h1
          · cases h1
        · rw [h1]
    · rw [upd_other g v e, i.1]
      constructor
      · exact .inl
      · rintro (h1 | ⟨h1, _⟩)
        · exact h1
        · exact absurd h1 e
  · intro s x
    by_cases e : x = v
    · subst e
      rw [upd_same]
      by_cases e2 : s = key
      · subst e2; simp [upd_same]
      · rw [upd_other g x e2, ← i.2]
        constructor
        · intro h1; injection h1 with h1; exact absurd h1.symm e2
        · intro h1
          rcases hc with h2 | ⟨_, h2⟩
          · rw [← i.2, h1] at h2; exact h2.symm ▸ rfl
          · rw [h1] at h2; cases h2
    · rw [upd_other h key e]
      by_cases e2 : s = key
      · subst e2
        rw [upd_same, i.2]
        constructor
        · intro h1
          rcases hc with h2 | ⟨h2, _⟩ <;> rw [h2] at h1
          · exact h1
          · cases h1
        · intro h1; injection h1 with h1; exact absurd h1.symm e
      · rw [upd_other g v e2, i.2]
theorem Inv.cons {n : Nat} {Fs : Nat → ByteArray → Option Int} {g : ByteArray → Option Int} {h : Int → Option ByteArray} (i : Inv (Among n Fs) g h) : Cons n Fs := by
  intro s s' v v' h1 h2
  rw [← i.1] at h1 h2
  constructor
  · intro e; subst e; rw [h1] at h2; injection h2
  · intro e; subst e
    rw [← i.2] at h1 h2
    rw [h1] at h2; injection h2

set_option maxHeartbeats 4000000 in
theorem agreeing_any (a : Option Addr) (n c M : Nat) (Bs : Nat → Nat) (Fs : Nat → ByteArray → Option Int) (w : World) (hn : n ≤ 2) (hM : M ≤ 4194304) (h : Hid (MapsIn w a n Bs)) (hs : Hid (∀ j, j < n → SI w (Bs j) M (Fs j) ∧ Fine (Fs j))) :
    Calls Trym.prog 32 #[.slice a n c] w fun e w' => Keeps [] w w' ∧ ((e = .returned (.tuple #[.map none, .bool false]) ∧ ¬ Cons n Fs) ∨ (e = .returned (.tuple #[.map (some w.heap.size), .bool true]) ∧ Cons n Fs ∧ ∃ g : ByteArray → Option Int, SI w' w.heap.size 8388608 g ∧ ∀ s v, g s = some v ↔ Among n Fs s v)) := by
  have hmm := @run_makeMap Trym.prog
  go_enter Trym.func32, Trym.ntmps32
  go_wp2_with fail
  go_loopw [18] (fun iv wr => ∃ j : Nat, iv = .int .i64 j ∧ j ≤ n ∧ Keeps [] w wr ∧ w.heap.size + 2 ≤ wr.heap.size ∧ ∃ g hh k, SI wr w.heap.size k g ∧ IS wr (w.heap.size + 1) k hh ∧ Inv (Among j Fs) g hh ∧ k ≤ j * M) (fun iv _ => n - (intOf iv).toNat)
  case atStart =>
    refine ⟨0, rfl, by omega, ((Keeps.refl _ _).alloc _).alloc _, by simp, fun _ => none, fun _ => none, 0, MapAt.kept (SI.made w) ((Keeps.refl [] _).alloc _) (by simp), ?_, ⟨by simp [Among], by simp⟩, by omega⟩
    have := IS.made (w.alloc (.map #[] 0))
    simpa using this
  case round =>
    obtain ⟨j, rfl, hj, hk, hsz, g, hh, k, hg, hhm, hinv, hkk⟩ := hrel
    by_cases hlt : j < n
    · obtain ⟨b, off, hx, hb, hc⟩ := h.out (by omega)
      subst hx
      have hcj : wr.cell? ⟨b, off + j, none⟩ = some (.map (some (Bs j))) := (World.cell?_of_block (a := ⟨b, off + j, none⟩) (hk.block b hb (by simp))).trans (hc j hlt)
      obtain ⟨hsj, hfj⟩ := hs.out j hlt
      have hbj : Bs j < w.heap.size := MapAt.lt hsj
      have hsj1 : SI wr (Bs j) M (Fs j) := MapAt.kept hsj hk (by simp)
      obtain ⟨F, hF⟩ : ∃ F, Hid (Fs j = F) := ⟨Fs j, (by show _ = _; rfl)⟩
      rw [hF.out] at hsj1 hfj
      clear hc hsj
      generalize Bs j = B at hcj hbj hsj1
      obtain ⟨wo, hwo⟩ : ∃ x, x = wr := ⟨_, rfl⟩
      subst hwo
      go_wp2_with (first
        | (at_range; refine wpList_range_si _ rfl _ rfl B M F rfl hsj1 ?_; intro w0 cnt0 hsr0 hcnt0 hg0 hs0)
        | go_in)
      go_frame
      go_loopw [8] (fun _ wq => Keeps [] w wq ∧ wo.heap.size ≤ wq.heap.size ∧ ∃ L cnt, SR wq B wo.heap.size M F L cnt ∧ ∃ g hh k, SI wq w.heap.size k g ∧ IS wq (w.heap.size + 1) k hh ∧ Inv (fun s v => Among j Fs s v ∨ (F s = some v ∧ ¬ L s)) g hh ∧ k + cnt ≤ (j + 1) * M) (fun _ wq => wq.rangeLeft B wo.heap.size)
      case atStart =>
        have hk0 := Keeps.ofGrown hg0
        refine ⟨hk.grown hg0 (by simp), by omega, _, cnt0, hsr0, g, hh, k, MapAt.kept hg hk0 (by simp), MapAt.kept hhm hk0 (by simp), hinv.congr ?_, by rw [Nat.succ_mul]; omega⟩
        intro s v
        constructor
        · exact .inl
        · rintro (h1 | ⟨h1, h2⟩)
          · exact h1
          · rw [h1] at h2; simp at h2
      case round =>
        clear hg0 hs0 hsr0 hcnt0 hinv hg hhm hkk g hh k
        obtain ⟨hk1, hsz1, L, cnt, hsr, g, hh, k, hg, hhm, hinv, hkk⟩ := hrel
        have hjm := Nat.mul_le_mul_right M (show j + 1 ≤ 2 by omega)
        go_wp2_with (first
          | (at_next; refine wpList_next_si _ rfl _ rfl B wo.heap.size M F L cnt rfl hsr ?_ ?_)
          | go_in)
        · intro hL
          go_wp2_with fail
          go_roundw
          case rel => exact ⟨j + 1, by go_num, by omega, hk1, by omega, g, hh, k, hg, hhm, hinv.congr (by
              intro s v
              constructor
              · rintro (⟨i, h1, h2⟩ | ⟨h1, _⟩)
                · exact ⟨i, by omega, h2⟩
                · exact ⟨j, by omega, by rw [hF.out]; exact h1⟩
              · rintro ⟨i, h1, h2⟩
                by_cases e : i = j
                · subst e; exact .inr ⟨by rw [← hF.out]; exact h2, hL s⟩
                · exact .inl ⟨i, by omega, h2⟩), by omega⟩
          case measure => simp [intOf]; omega
        · intro s v w1 cnt1 hfs hLs hsr1 hcl hgr1 hen
          have hs1 : s.size ≤ maxLen := Nat.le_trans (hfj s v hfs).1 (by unfold maxLen; omega)
          have hs2 := (hfj s v hfs).2
          have hk2 := hk1.grown hgr1 (by intro i hi; cases hi; exact .inl hk.size)
          have hsz2 := Nat.le_trans hsz1 hgr1.size
          have hg1 : SI w1 w.heap.size k g := MapAt.kept hg (Keeps.ofGrown hgr1) (by simp; omega)
          have hhm1 : IS w1 (w.heap.size + 1) k hh := MapAt.kept hhm (Keeps.ofGrown hgr1) (by simp; omega)
          have hup : ∀ t x, (Among j Fs t x ∨ (F t = some x ∧ ¬ L t)) → Among n Fs t x := by
            rintro t x (⟨i, h1, h2⟩ | ⟨h1, _⟩)
            · exact ⟨i, by omega, h2⟩
            · exact ⟨j, hlt, by rw [hF.out]; exact h1⟩
          cases hgs : g s with
          | none =>
            have q1 := SI.no hg1 hs1 hgs
            cases hhv : hh v with
            | none =>
              have q2 := IS.no hhm1 hs2 hhv
              obtain ⟨w2, r2, m2, g2⟩ := SI.store hg1 (by unfold maxLen; omega) (s := s) (v := v) hs1 hs2
              obtain ⟨w3, r3, m3, g3⟩ := IS.store (MapAt.kept hhm1 (Keeps.ofGrown g2) (by simp)) (by unfold maxLen; omega) (x := v) (s := s) hs2 hs1
              have m4 : SI w3 w.heap.size (k + 1) (upd g s v) := MapAt.kept m2 (Keeps.ofGrown g3) (by simp)
              have hsr3 := (hsr1.kept g2 (by intro e; injection e; omega) (by intro e; injection e; omega)).kept g3 (by intro e; injection e; omega) (by intro e; injection e; omega)
              have hk3 := (hk2.grown g2 (by intro i hi; cases hi; exact .inl (Nat.le_refl _))).grown g3 (by intro i hi; cases hi; exact .inl (by omega))
              have hsz3 := Nat.le_trans (Nat.le_trans hsz2 g2.size) g3.size
              have hi3 : Inv (fun t x => Among j Fs t x ∨ (F t = some x ∧ ¬ (L t ∧ t ≠ s))) (upd g s v) (upd hh v s) := (hinv.step (.inr ⟨hgs, hhv⟩)).congr (by
                intro t x
                constructor
                · rintro ((h1 | ⟨h1, h2⟩) | ⟨h1, h2⟩)
                  · exact .inl h1
                  · exact .inr ⟨h1, fun h3 => h2 h3.1⟩
                  · subst h1; subst h2; exact .inr ⟨hfs, fun h3 => h3.2 rfl⟩
                · rintro (h1 | ⟨h1, h2⟩)
                  · exact .inl (.inl h1)
                  · by_cases e : t = s
                    · subst e; exact .inr ⟨rfl, by rw [hfs] at h1; injection h1 with h1; exact h1.symm⟩
                    · exact .inl (.inr ⟨h1, fun h3 => h2 ⟨h3, e⟩⟩))
              clear m2 g2 g3 hinv hg1 hhm1 hk2 hsz2
              go_wp2_with fail
              go_roundw
              case rel => exact ⟨hk3, hsz3, _, cnt1, hsr3, _, _, _, m4, m3, hi3, by omega⟩
              case measure => rw [hsr3.left_eq, hsr.left_eq]; exact hcl
            | some t =>
              have q2 := IS.yes hhm1 hs2 hhv
              have hts : t ≠ s := by
                intro e
                subst e
                rw [hinv.2, hgs] at hhv
                cases hhv
              have hneq := str_ne hts
              have hnc : ¬ Cons n Fs := by
                intro hcons
                have a1 : Among n Fs s v := ⟨j, hlt, by rw [hF.out]; exact hfs⟩
                exact hts ((hcons t s v v (hup _ _ ((hinv.1 _ _).1 ((hinv.2 _ _).1 hhv))) a1).2 rfl)
              clear hinv hg1 hhm1
              go_wp2_with fail
              go_ret2
              exact ⟨hk2, .inl ⟨rfl, hnc⟩⟩
          | some x =>
            have q1 := SI.yes hg1 hs1 hgs
            by_cases hxv : x = v
            · subst hxv
              have hhv := (hinv.2 _ _).2 hgs
              have q2 := IS.yes hhm1 hs2 hhv
              obtain ⟨w2, r2, m2, g2⟩ := SI.store hg1 (by unfold maxLen; omega) (s := s) (v := x) hs1 hs2
              obtain ⟨w3, r3, m3, g3⟩ := IS.store (MapAt.kept hhm1 (Keeps.ofGrown g2) (by simp)) (by unfold maxLen; omega) (x := x) (s := s) hs2 hs1
              have m4 : SI w3 w.heap.size (k + 1) (upd g s x) := MapAt.kept m2 (Keeps.ofGrown g3) (by simp)
              have hsr3 := (hsr1.kept g2 (by intro e; injection e; omega) (by intro e; injection e; omega)).kept g3 (by intro e; injection e; omega) (by intro e; injection e; omega)
              have hk3 := (hk2.grown g2 (by intro i hi; cases hi; exact .inl (Nat.le_refl _))).grown g3 (by intro i hi; cases hi; exact .inl (by omega))
              have hsz3 := Nat.le_trans (Nat.le_trans hsz2 g2.size) g3.size
              have hi3 : Inv (fun t y => Among j Fs t y ∨ (F t = some y ∧ ¬ (L t ∧ t ≠ s))) (upd g s x) (upd hh x s) := (hinv.step (.inl hgs)).congr (by
                intro t y
                constructor
                · rintro ((h1 | ⟨h1, h2⟩) | ⟨h1, h2⟩)
                  · exact .inl h1
                  · exact .inr ⟨h1, fun h3 => h2 h3.1⟩
                  · subst h1; subst h2; exact .inr ⟨hfs, fun h3 => h3.2 rfl⟩
                · rintro (h1 | ⟨h1, h2⟩)
                  · exact .inl (.inl h1)
                  · by_cases e : t = s
                    · subst e; exact .inr ⟨rfl, by rw [hfs] at h1; injection h1 with h1; exact h1.symm⟩
                    · exact .inl (.inr ⟨h1, fun h3 => h2 ⟨h3, e⟩⟩))
              clear m2 g2 g3 hinv hg1 hhm1 hk2 hsz2
              go_wp2_with fail
              go_roundw
              case rel => exact ⟨hk3, hsz3, _, cnt1, hsr3, _, _, _, m4, m3, hi3, by omega⟩
              case measure => rw [hsr3.left_eq, hsr.left_eq]; exact hcl
            ·
              have hnc : ¬ Cons n Fs := by
                intro hcons
                have a1 : Among n Fs s v := ⟨j, hlt, by rw [hF.out]; exact hfs⟩
                exact hxv ((hcons s s x v (hup _ _ ((hinv.1 _ _).1 hgs)) a1).1 rfl)
              clear hinv hg1 hhm1
              go_wp2_with fail
              go_ret2
              exact ⟨hk2, .inl ⟨rfl, hnc⟩⟩
    · have e : j = n := by omega
      subst e
      have hjm := Nat.mul_le_mul_right M (show j ≤ 2 by omega)
      have hg8 : SI wr w.heap.size 8388608 g := by
        obtain ⟨D, h1, h2⟩ := hg
        exact ⟨D, h1.mono (by omega), h2⟩
      have hcons := hinv.cons
      have hi1 := hinv.1
      clear hinv
      go_wp2_with fail
      go_ret2
      exact ⟨hk, .inr ⟨rfl, hcons, g, hg8, hi1⟩⟩
end Go.Proofs.Qxb6602314aMods
