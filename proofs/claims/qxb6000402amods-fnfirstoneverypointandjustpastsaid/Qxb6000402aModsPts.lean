import Derived.Test.Qxb6000402aModsDeal
namespace Go.Proofs.Qxb6000402aMods.Deal

def pos (p : Int) : Int := p / 4294967296
def own (p : Int) : Int := p % 65536
def d0 (p : Int) : Nat := (p / 4294967296 % 2048).toNat
def d1 (p : Int) : Nat := (p / 8796093022208 % 2048).toNat
def d2 (p : Int) : Nat := (p / 18014398509481984).toNat

/-- A point: 64 bits, its owner in the lower 32, below 65536. -/
def Good (p : Int) : Prop := 0 ≤ p ∧ p < 18446744073709551616 ∧ p % 4294967296 < 65536

def l1 (pts : List Int) : List Int := deal d0 2048 pts
def l2 (pts : List Int) : List Int := deal d1 2048 (l1 pts)
def l3 (pts : List Int) : List Int := deal d2 2048 (l2 pts)

theorem d0_lt (p : Int) : d0 p < 2048 := by unfold d0; omega
theorem d1_lt (p : Int) : d1 p < 2048 := by unfold d1; omega
theorem d2_lt {p : Int} (h : Good p) : d2 p < 2048 := by unfold d2; unfold Good at h; omega
theorem d0_cast (p : Int) : ((d0 p : Nat) : Int) = p / 4294967296 % 2048 := by unfold d0; omega
theorem d1_cast (p : Int) : ((d1 p : Nat) : Int) = p / 8796093022208 % 2048 := by unfold d1; omega
theorem d1_pos (p : Int) : ((d1 p : Nat) : Int) = pos p / 2048 % 2048 := by unfold d1 pos; omega
theorem d2_cast {p : Int} (h : 0 ≤ p) : ((d2 p : Nat) : Int) = p / 18014398509481984 := by unfold d2; omega
theorem d2_mask {p : Int} (h : Good p) : p / 18014398509481984 % 2048 = p / 18014398509481984 := by unfold Good at h; omega

theorem pos_digits {p : Int} (h : Good p) : pos p = d2 p * 4194304 + d1 p * 2048 + d0 p := by
  unfold Good at h
  rw [d0_cast, d1_cast, d2_cast h.1]
  unfold pos
  omega
theorem point_of {p : Int} (h : Good p) : p = pos p * 4294967296 + own p := by
  unfold Good at h
  unfold pos own
  omega
theorem own_bd (p : Int) : 0 ≤ own p ∧ own p < 65536 := by unfold own; omega
theorem pos_bd {p : Int} (h : Good p) : 0 ≤ pos p ∧ pos p < 4294967296 := by unfold Good at h; unfold pos; omega

theorem good_l1 {pts : List Int} (h : ∀ p ∈ pts, Good p) : ∀ p ∈ l1 pts, Good p := fun p hp => h p (deal_mem.1 hp).1
theorem good_l2 {pts : List Int} (h : ∀ p ∈ pts, Good p) : ∀ p ∈ l2 pts, Good p := fun p hp => good_l1 h p (deal_mem.1 hp).1
theorem good_l3 {pts : List Int} (h : ∀ p ∈ pts, Good p) : ∀ p ∈ l3 pts, Good p := fun p hp => good_l2 h p (deal_mem.1 hp).1

theorem len_l1 (pts : List Int) : (l1 pts).length = pts.length := by
  unfold l1; rw [deal_length, lo_all (fun a _ => d0_lt a)]
theorem len_l2 (pts : List Int) : (l2 pts).length = pts.length := by
  unfold l2; rw [deal_length, lo_all (fun a _ => d1_lt a), len_l1]
theorem len_l3 {pts : List Int} (h : ∀ p ∈ pts, Good p) : (l3 pts).length = pts.length := by
  unfold l3; rw [deal_length, lo_all (fun a ha => d2_lt (good_l2 h a ha)), len_l2]

theorem mem_l3 {pts : List Int} (h : ∀ p ∈ pts, Good p) {p : Int} : p ∈ l3 pts ↔ p ∈ pts := by
  unfold l3 l2 l1
  rw [deal_mem, deal_mem, deal_mem]
  constructor
  · rintro ⟨⟨⟨h1, _⟩, _⟩, _⟩; exact h1
  · intro h1; exact ⟨⟨⟨h1, d0_lt p⟩, d1_lt p⟩, d2_lt (h p h1)⟩

/-- Stable: the points on one position keep their order. -/
theorem l3_filter {pts : List Int} (h : ∀ p ∈ pts, Good p) (x : Int) : (l3 pts).filter (fun p => pos p == x) = pts.filter (fun p => pos p == x) := by
  by_cases hx : ∃ p ∈ pts, pos p = x
  · obtain ⟨p0, hp0, rfl⟩ := hx
    have e0 : ∀ a, pos a = pos p0 → d0 a = d0 p0 := by intro a ha; unfold d0; unfold pos at ha; rw [ha]
    have e1 : ∀ a, pos a = pos p0 → d1 a = d1 p0 := by
      intro a ha
      have h1 := d1_pos a
      have h2 := d1_pos p0
      rw [ha] at h1
      omega
    have e2 : ∀ a, pos a = pos p0 → d2 a = d2 p0 := by
      intro a ha
      unfold d2
      unfold pos at ha
      have : a / 18014398509481984 = p0 / 18014398509481984 := by omega
      rw [this]
    unfold l3 l2 l1
    rw [deal_filter _ _ (d2 p0) (d2_lt (h p0 hp0)) (by intro a ha; exact e2 a (by simpa using ha)),
      deal_filter _ _ (d1 p0) (d1_lt p0) (by intro a ha; exact e1 a (by simpa using ha)),
      deal_filter _ _ (d0 p0) (d0_lt p0) (by intro a ha; exact e0 a (by simpa using ha))]
  · rw [List.filter_eq_nil_iff.2, List.filter_eq_nil_iff.2]
    · intro p hp e; exact hx ⟨p, hp, by simpa using e⟩
    · intro p hp e; exact hx ⟨p, (mem_l3 h).1 hp, by simpa using e⟩

/-- Ascending. -/
theorem l3_sorted {pts : List Int} (h : ∀ p ∈ pts, Good p) : (l3 pts).Pairwise (fun a b => pos a ≤ pos b) := by
  have s1 : (l1 pts).Pairwise (fun a b => d0 a ≤ d0 b) := by
    refine deal_sorted (R' := fun _ _ => True) ?_ (fun a b h => by omega) (fun a b h _ => by omega) 2048
    exact List.pairwise_of_forall (fun _ _ => trivial)
  have s2 : (l2 pts).Pairwise (fun a b => d1 a < d1 b ∨ d1 a = d1 b ∧ d0 a ≤ d0 b) :=
    deal_sorted s1 (fun a b h => .inl h) (fun a b h hr => .inr ⟨h, hr⟩) 2048
  have s3 : (l3 pts).Pairwise (fun a b => d2 a < d2 b ∨ d2 a = d2 b ∧ (d1 a < d1 b ∨ d1 a = d1 b ∧ d0 a ≤ d0 b)) :=
    deal_sorted s2 (fun a b h => .inl h) (fun a b h hr => .inr ⟨h, hr⟩) 2048
  refine pw_of s3 (fun a ha b hb hr => ?_)
  rw [pos_digits (good_l3 h a ha), pos_digits (good_l3 h b hb)]
  have := d0_lt a
  have := d0_lt b
  have := d1_lt a
  have := d1_lt b
  omega

/-- A list in ascending order with given pickings is one. -/
theorem sorted_unique (key : Int → Int) : ∀ (a b : List Int), a.Pairwise (fun x y => key x ≤ key y) → b.Pairwise (fun x y => key x ≤ key y) → (∀ x, a.filter (fun p => key p == x) = b.filter (fun p => key p == x)) → a = b := by
  intro a
  induction a with
  | nil =>
    intro b _ _ h
    cases b with
    | nil => rfl
    | cons y b => have := h (key y); simp at this
  | cons x a ih =>
    intro b ha hb h
    cases b with
    | nil => have := h (key x); simp at this
    | cons y b =>
      rw [List.pairwise_cons] at ha hb
      have hx := h (key x)
      have hy := h (key y)
      have e : key x = key y := by
        have m1 : x ∈ (y :: b).filter (fun p => key p == key x) := by rw [← hx]; simp
        have m2 : y ∈ (x :: a).filter (fun p => key p == key y) := by rw [hy]; simp
        have i1 : x ∈ y :: b := (List.mem_filter.1 m1).1
        have i2 : y ∈ x :: a := (List.mem_filter.1 m2).1
        have g1 : key y ≤ key x := by
          rcases List.mem_cons.1 i1 with e | e
          · rw [e]; exact Int.le_refl _
          · exact hb.1 x e
        have g2 : key x ≤ key y := by
          rcases List.mem_cons.1 i2 with e | e
          · rw [e]; exact Int.le_refl _
          · exact ha.1 y e
        omega
      have exy : x = y := by
        have := hx
        rw [List.filter_cons, List.filter_cons, if_pos (by simp), if_pos (by simp [e])] at this
        injection this
      subst exy
      congr 1
      refine ih b ha.2 hb.2 (fun z => ?_)
      have := h z
      rw [List.filter_cons, List.filter_cons] at this
      split at this
      · injection this
      · exact this
end Go.Proofs.Qxb6000402aMods.Deal
