import Derived.Test.Qxb6606310aModsPlain
namespace Go.Proofs.Qxb6606310aMods.Plain

theorem sc_over (t : List Int) : ∀ (r : List Int) (k : Nat), (∀ c ∈ t, stopB c = false) → sc (t ++ r) k = sc r (k + t.length) := by
  induction t with
  | nil => intro r k _; rfl
  | cons c t ih =>
    intro r k h
    have hc := h c (by simp)
    simp only [List.cons_append, sc, hc, List.length_cons]
    rw [if_neg (by simp), ih r (k + 1) (fun x hx => h x (by simp [hx]))]
    congr 1
    omega

/-- A scalar between whatever stands ahead and nothing, or a byte at which a scalar ends. -/
theorem valEnd_scal (p t r : List Int) (hne : t ≠ []) (ht : ∀ c ∈ t, stopB c = false) (hr : r = [] ∨ ∃ c r', r = c :: r' ∧ stopB c = true) :
    valEnd (p ++ (t ++ r)) p.length = p.length + t.length := by
  obtain ⟨c, t', rfl⟩ : ∃ c t', t = c :: t' := by
    cases t with
    | nil => exact absurd rfl hne
    | cons c t' => exact ⟨c, t', rfl⟩
  have hc := ht c (by simp)
  have hg : (p ++ (c :: t' ++ r)).getD p.length 0 = c := by simp
  have h34 : c ≠ 34 := by intro e; subst e; exact absurd hc (by decide)
  have h123 : c ≠ 123 := by intro e; subst e; exact absurd hc (by decide)
  have h91 : c ≠ 91 := by intro e; subst e; exact absurd hc (by decide)
  unfold valEnd
  rw [if_neg (by simp), hg, if_neg h34, if_neg (by omega)]
  unfold scAt
  rw [List.drop_left, sc_over _ r _ ht]
  rcases hr with rfl | ⟨c, r', rfl, hs⟩
  · rfl
  · simp [sc, hs]
end Go.Proofs.Qxb6606310aMods.Plain
