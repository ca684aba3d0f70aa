import Derived.Test.Qxb6602314aModsHand
import Derived.Laws.CopyOwn
namespace Go.Proofs.Qxb6602314aMods
open Go.RowKit Go.Maps
set_option linter.unusedVariables false

theorem size9 : (Trym.prog.info? 9).map (·.size) = some 1 := by kernel_rfl

theorem Keeps.onto {B : Nat} {a b c : World} (h : Keeps [] a b) (k : Keeps [B] b c) (hB : a.heap.size ≤ B) : Keeps [] a c :=
  ⟨k.os.trans h.os, k.tape.trans h.tape, k.output.trans h.output, Nat.le_trans h.size k.size, fun i hi hS => (k.block i (Nat.lt_of_lt_of_le hi h.size) (by simp; omega)).trans (h.block i hi hS)⟩
theorem Keeps.below {w w' : World} (h : Keeps [] w w') : Below w.heap.size w w' := ⟨h.os, h.tape, h.output, h.size, fun k hk => h.block k hk (by simp)⟩
theorem Keeps.ofBelow {w w' : World} (h : Below w.heap.size w w') : Keeps [] w w' := ⟨h.os, h.tape, h.output, h.size, fun k hk _ => h.block k hk⟩
theorem GotIn.kept {w w' : World} {a : Option Addr} {n : Nat} {ks : Nat → ByteArray} {ns : Nat → Int} (h : GotIn w a n ks ns) (k : Keeps [] w w') : GotIn w' a n ks ns := by
  intro hp
  obtain ⟨b, off, e, hb, h1, h2⟩ := h hp
  exact ⟨b, off, e, Nat.lt_of_lt_of_le hb k.size, fun j hj => (World.cell?_of_block (k.block b hb (by simp))).trans (h1 j hj), fun j hj => (World.cell?_of_block (k.block b hb (by simp))).trans (h2 j hj)⟩
theorem NmsIn.kept {w w' : World} {a : Option Addr} {n : Nat} {f : Nat → ByteArray} (h : NmsIn w a n f) (k : Keeps [] w w') : NmsIn w' a n f := by
  intro hp
  obtain ⟨b, off, e, hb, h1⟩ := h hp
  exact ⟨b, off, e, Nat.lt_of_lt_of_le hb k.size, fun j hj => (World.cell?_of_block (k.block b hb (by simp))).trans (h1 j hj)⟩
theorem SI.kept0 {w w' : World} {B n : Nat} {f : ByteArray → Option Int} (h : SI w B n f) (k : Keeps [] w w') : SI w' B n f := MapAt.kept h k (by simp)

theorem bg_fine {ks : Nat → ByteArray} {ns : Nat → Int} : ∀ {n}, (∀ j, j < n → (ks j).size ≤ 1048576) → (∀ j, j < n → (Lit.int .i64 (ns j)).wf = true) → Fine (bg ks ns n)
  | 0, _, _ => fun s v h => by cases h
  | n + 1, h1, h2 => (bg_fine (fun j hj => h1 j (by omega)) (fun j hj => h2 j (by omega))).upd (h1 n (by omega)) (h2 n (by omega))

theorem inj_of_cons {Fs : Nat → ByteArray → Option Int} (h : Cons 1 Fs) : InjF (Fs 0) := fun s s' x h1 h2 => (h s s' x x ⟨0, by omega, h1⟩ ⟨0, by omega, h2⟩).2 rfl
theorem among_two {f g : ByteArray → Option Int} (he : ∀ s x, f s = some x → g s = some x) {s : ByteArray} {v : Int} : Among 2 (fun j => if j = 0 then f else g) s v ↔ g s = some v := by
  constructor
  · rintro ⟨j, hj, h⟩
    by_cases e : j = 0
    · simp [e] at h; exact he s v h
    · simp [e] at h; exact h
  · intro h
    exact ⟨1, by omega, by simpa using h⟩
theorem cons_two {f g : ByteArray → Option Int} (he : ∀ s x, f s = some x → g s = some x) (hi : InjF g) : Cons 2 (fun j => if j = 0 then f else g) := by
  intro s s' v v' h1 h2
  rw [among_two he] at h1 h2
  constructor
  · intro e; subst e; rw [h1] at h2; injection h2
  · intro e; subst e; exact hi s s' v h1 h2
theorem view_eq {f g : ByteArray → Option Int} (h : ∀ s v, f s = some v ↔ g s = some v) : f = g := by
  funext s
  cases e : f s with
  | some v => exact ((h s v).1 e).symm
  | none =>
    cases e2 : g s with
    | none => rfl
    | some v => rw [(h s v).2 e2] at e; cases e

/-- ZZagreeing. -/
theorem zzAgree_any (a : Option Addr) (n c M : Nat) (Bs : Nat → Nat) (Fs : Nat → ByteArray → Option Int) (w : World) (hn : n ≤ 2) (hM : M ≤ 4194304) (h : Hid (MapsIn w a n Bs)) (hs : Hid (∀ j, j < n → SI w (Bs j) M (Fs j) ∧ Fine (Fs j))) :
    Calls Trym.prog 17 #[.slice a n c] w fun e w' => Keeps [] w w' ∧ ((e = .returned (.tuple #[.map none, .bool false]) ∧ ¬ Cons n Fs) ∨ (e = .returned (.tuple #[.map (some w.heap.size), .bool true]) ∧ Cons n Fs ∧ ∃ g : ByteArray → Option Int, SI w' w.heap.size 8388608 g ∧ ∀ s v, g s = some v ↔ Among n Fs s v)) := by
  go_enter Trym.func17, Trym.ntmps17
  go_wp2_with fail
  refine (agreeing_any a n c M Bs Fs _ hn hM h hs).mono ?_
  rintro e w' ⟨hk, ⟨rfl, hc⟩ | ⟨rfl, hc⟩⟩
  · have hc : Hid (¬ Cons n Fs) := hc
    go_wp2_with fail
    go_ret2
    exact ⟨hk, .inl ⟨rfl, hc.out⟩⟩
  · have hc : Hid (Cons n Fs ∧ ∃ g : ByteArray → Option Int, SI w' w.heap.size 8388608 g ∧ ∀ s v, g s = some v ↔ Among n Fs s v) := hc
    go_wp2_with fail
    go_ret2
    exact ⟨hk, .inr ⟨rfl, hc.out⟩⟩
/-- ZZhandOut. -/
theorem zzHand_any (B N : Nat) (f0 : ByteArray → Option Int) (a : Option Addr) (m c : Nat) (fs : Nat → ByteArray) (lo hi : Int) (w : World) (hN : N ≤ 1048576) (hm : m ≤ 1048576) (h : Hid (SI w B N f0)) (hfine : Hid (Fine f0)) (hinj : Hid (InjF f0))
    (hns : Hid (NmsIn w a m fs)) (hsz : Hid (∀ j, j < m → (fs j).size ≤ 1048576)) (hlo : Hid ((Lit.int .i64 lo).wf = true)) (hhi : Hid ((Lit.int .i64 hi).wf = true)) :
    Calls Trym.prog 13 #[.map (some B), .slice a m c, .int .i64 lo, .int .i64 hi] w fun e w' => ∃ v g, e = .returned v ∧ Hid (StrsAt w' v (lack g fs m)) ∧ Hid (SI w' B 2097152 g) ∧ Hid (Fine g) ∧ Hid (InjF g) ∧ Hid (∀ s x, f0 s = some x → g s = some x) ∧ Keeps [B] w w' := by
  go_enter Trym.func13, Trym.ntmps13
  go_wp2_with fail
  refine (handOut_any B N f0 a m c fs lo hi _ hN hm h hfine hinj hns hsz hlo hhi).mono ?_
  rintro e w' ⟨v, g, rfl, h1, h2, h3, h4, h5, h6⟩
  go_wp2_with fail
  go_ret
  exact ⟨_, g, rfl, h1, h2, h3, h4, h5, h6⟩
end Go.Proofs.Qxb6602314aMods
