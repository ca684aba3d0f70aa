import Derived.Test.Qxb6606310aModsPlain
namespace Go.Proofs.Qxb6606310aMods.Plain

/-- Bytes inside a string, none of which ends it. -/
def StrB (l : List Int) : Prop := ∀ (r : List Int) (p : Nat), fl (l ++ r) false p = fl r false (p + l.length)
/-- Bytes over which the automaton goes from depth n to depth m. -/
def Adv (s : List Int) (n m : Int) : Prop := ∀ (r : List Int) (p : Nat), ct (s ++ r) n false false p = ct r m false false (p + s.length)
/-- Bytes of a whole container: the automaton ends behind them. -/
def Ends (s : List Int) : Prop := ∀ (r : List Int) (p : Nat), ct (s ++ r) 0 false false p = p + s.length

theorem strB_nil : StrB [] := fun _ _ => rfl
theorem strB_app {a b : List Int} (ha : StrB a) (hb : StrB b) : StrB (a ++ b) := by
  intro r p
  rw [List.append_assoc, ha, hb, List.length_append, Nat.add_assoc]
theorem strB_one {c : Int} (h1 : c ≠ 34) (h2 : c ≠ 92) : StrB [c] := by
  intro r p
  simp [fl, h1, h2]
theorem strB_esc (c : Int) : StrB [92, c] := by
  intro r p
  simp [fl]
theorem strB_hex {a b : Int} (h1 : a ≠ 34) (h2 : a ≠ 92) (h3 : b ≠ 34) (h4 : b ≠ 92) : StrB [92, 117, 48, 48, a, b] :=
  strB_app (strB_esc 117) (strB_app (strB_one (c := 48) (by decide) (by decide)) (strB_app (strB_one (c := 48) (by decide) (by decide)) (strB_app (strB_one h1 h2) (strB_one h3 h4))))

theorem adv_nil (n : Int) : Adv [] n n := fun _ _ => rfl
theorem adv_app {a b : List Int} {n m l : Int} (ha : Adv a n m) (hb : Adv b m l) : Adv (a ++ b) n l := by
  intro r p
  rw [List.append_assoc, ha, hb, List.length_append, Nat.add_assoc]
theorem adv_byte {c n : Int} (h1 : c ≠ 34) (h2 : c ≠ 123) (h3 : c ≠ 91) (h4 : c ≠ 125) (h5 : c ≠ 93) : Adv [c] n n := by
  intro r p
  simp [ct, h1, h2, h3, h4, h5]
theorem adv_calm (l : List Int) (n : Int) : (∀ c ∈ l, stopB c = false) → Adv l n n := by
  induction l with
  | nil => intro _; exact adv_nil n
  | cons c l ih =>
    intro h
    have hc := h c (by simp)
    refine adv_app (a := [c]) (adv_byte ?_ ?_ ?_ ?_ ?_) (ih (fun x hx => h x (by simp [hx])))
    all_goals (intro e; subst e; exact absurd hc (by decide))
theorem adv_open {c n : Int} (h : c = 123 ∨ c = 91) : Adv [c] n (n + 1) := by
  intro r p
  rcases h with rfl | rfl <;> simp [ct]
theorem adv_close {c n : Int} (h : c = 125 ∨ c = 93) (hn : n - 1 ≠ 0) : Adv [c] n (n - 1) := by
  intro r p
  rcases h with rfl | rfl <;> simp [ct, hn]
theorem adv_str {l : List Int} (n : Int) (h : StrB l) : Adv (34 :: (l ++ [34])) n n := by
  intro r p
  have e1 : fl (l ++ (34 :: r)) false (p + 1) = p + 1 + l.length + 1 := by rw [h]; simp [fl]
  have e2 : 34 :: (l ++ [34]) ++ r = 34 :: (l ++ (34 :: r)) := by simp
  rw [e2]
  have e3 : ct (34 :: (l ++ (34 :: r))) n false false p = ct (l ++ (34 :: r)) n true false (p + 1) := by simp [ct]
  rw [e3, ct_str, e1]
  have e4 : (l ++ 34 :: r).drop (p + 1 + l.length + 1 - (p + 1)) = r := by
    rw [show p + 1 + l.length + 1 - (p + 1) = (l ++ [34]).length from by simp; omega, show l ++ 34 :: r = (l ++ [34]) ++ r from by simp, List.drop_left]
  rw [e4]
  congr 1
  simp
  omega
theorem ends_close {s : List Int} {c : Int} (h : Adv s 0 1) (hc : c = 125 ∨ c = 93) : Ends (s ++ [c]) := by
  intro r p
  rw [List.append_assoc, h]
  rcases hc with rfl | rfl <;> (simp [ct]; omega)

/-- A container between whatever stands ahead and whatever stands behind. -/
theorem valEnd_cont (p s r : List Int) (c : Int) (s' : List Int) (hs : s = c :: s') (hc : c = 123 ∨ c = 91) (h : Ends s) : valEnd (p ++ (s ++ r)) p.length = p.length + s.length := by
  subst hs
  have hg : (p ++ (c :: s' ++ r)).getD p.length 0 = c := by simp
  unfold valEnd
  rw [if_neg (by simp), hg, if_neg (by omega), if_pos hc]
  unfold ctAt
  rw [List.drop_left, h]
end Go.Proofs.Qxb6606310aMods.Plain
