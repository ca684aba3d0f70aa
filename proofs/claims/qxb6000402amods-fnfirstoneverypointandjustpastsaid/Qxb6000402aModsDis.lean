import Derived.Test.Qxb6000402aModsPts
namespace Go.Proofs.Qxb6000402aMods.Deal

/-- How many of the numbers below m stand in the list. -/
def dis : Nat → List Int → Nat
  | 0, _ => 0
  | m + 1, l => dis m l + (if (m : Int) ∈ l then 1 else 0)

theorem dis_congr (m : Nat) {a b : List Int} (h : ∀ v : Nat, v < m → ((v : Int) ∈ a ↔ (v : Int) ∈ b)) : dis m a = dis m b := by
  induction m with
  | zero => rfl
  | succ m ih =>
    simp only [dis]
    rw [ih (fun v hv => h v (by omega))]
    by_cases e : (m : Int) ∈ a
    · rw [if_pos e, if_pos ((h m (by omega)).1 e)]
    · rw [if_neg e, if_neg (fun e2 => e ((h m (by omega)).2 e2))]
theorem dis_in (m : Nat) (l : List Int) (y : Int) (h : y ∈ l) : dis m (l ++ [y]) = dis m l := by
  apply dis_congr
  intro v _
  simp only [List.mem_append, List.mem_singleton]
  constructor
  · rintro (h1 | h1)
    · exact h1
    · rw [h1]; exact h
  · exact .inl
theorem dis_new (m : Nat) (l : List Int) (y : Nat) (hy : y < m) (h : (y : Int) ∉ l) : dis m (l ++ [(y : Int)]) = dis m l + 1 := by
  induction m with
  | zero => omega
  | succ m ih =>
    simp only [dis, List.mem_append, List.mem_singleton]
    by_cases e : y = m
    · subst e
      rw [if_pos (.inr rfl), if_neg h, dis_congr y (a := l ++ [(y : Int)]) (b := l)]
      intro v hv
      simp only [List.mem_append, List.mem_singleton]
      constructor
      · rintro (h1 | h1)
        · exact h1
        · omega
      · exact .inl
    · rw [ih (by omega)]
      by_cases e2 : (m : Int) ∈ l
      · rw [if_pos (.inl e2), if_pos e2]
      · have e3 : ¬ ((m : Int) ∈ l ∨ (m : Int) = (y : Int)) := by
          rintro (h1 | h1)
          · exact e2 h1
          · omega
        rw [if_neg e2, if_neg e3]
theorem dis_le (m : Nat) (l : List Int) : dis m l ≤ m := by
  induction m with
  | zero => exact Nat.le_refl _
  | succ m ih => simp only [dis]; split <;> omega
theorem dis_nil (m : Nat) : dis m [] = 0 := by
  induction m with
  | zero => rfl
  | succ m ih => simp [dis, ih]
end Go.Proofs.Qxb6000402aMods.Deal
