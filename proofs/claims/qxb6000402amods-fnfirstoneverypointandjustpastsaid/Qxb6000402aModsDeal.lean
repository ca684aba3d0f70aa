namespace Go.Proofs.Qxb6000402aMods.Deal

/-- The elements with digit v; how many; how many with a lower digit. -/
def bk (f : Int → Nat) (v : Nat) (l : List Int) : List Int := l.filter (fun a => f a == v)
def cf (f : Int → Nat) (l : List Int) (v : Nat) : Nat := (bk f v l).length
def lo (f : Int → Nat) (l : List Int) : Nat → Nat
  | 0 => 0
  | v + 1 => lo f l v + cf f l v
/-- The stable deal by a digit below K. -/
def deal (f : Int → Nat) : Nat → List Int → List Int
  | 0, _ => []
  | K + 1, l => deal f K l ++ bk f K l

theorem mem_bk {f : Int → Nat} {v : Nat} {l : List Int} {a : Int} : a ∈ bk f v l ↔ a ∈ l ∧ f a = v := by simp [bk]

theorem bk_append (f : Int → Nat) (v : Nat) (a b : List Int) : bk f v (a ++ b) = bk f v a ++ bk f v b := by simp [bk]
theorem bk_one_eq {f : Int → Nat} {v : Nat} {p : Int} (h : f p = v) : bk f v [p] = [p] := by simp [bk, h]
theorem bk_one_ne {f : Int → Nat} {v : Nat} {p : Int} (h : f p ≠ v) : bk f v [p] = [] := by simp [bk, h]

theorem take_snoc (l : List Int) (k : Nat) (h : k < l.length) : l.take (k + 1) = l.take k ++ [l.getD k 0] := by
  rw [List.take_succ_eq_append_getElem h]
  simp [List.getD, h]

theorem cf_take_succ (f : Int → Nat) (l : List Int) (k v : Nat) (h : k < l.length) : cf f (l.take (k + 1)) v = cf f (l.take k) v + (if f (l.getD k 0) = v then 1 else 0) := by
  unfold cf
  rw [take_snoc l k h, bk_append]
  split
  · rename_i e; rw [bk_one_eq e]; simp
  · rename_i e; rw [bk_one_ne e]; simp

theorem cf_take_le (f : Int → Nat) (l : List Int) (k v : Nat) : cf f (l.take k) v ≤ cf f l v := by
  unfold cf
  conv => rhs; rw [← List.take_append_drop k l, bk_append]
  simp
theorem cf_take_lt (f : Int → Nat) (l : List Int) (k : Nat) (h : k < l.length) : cf f (l.take k) (f (l.getD k 0)) < cf f l (f (l.getD k 0)) := by
  have h1 := cf_take_succ f l k (f (l.getD k 0)) h
  have h2 := cf_take_le f l (k + 1) (f (l.getD k 0))
  rw [if_pos rfl] at h1
  omega

theorem lo_mono (f : Int → Nat) (l : List Int) {a b : Nat} (h : a ≤ b) : lo f l a ≤ lo f l b := by
  induction b with
  | zero => have : a = 0 := by omega
            subst this; exact Nat.le_refl _
  | succ b ih =>
    by_cases e : a = b + 1
    · subst e; exact Nat.le_refl _
    · have := ih (by omega)
      simp only [lo]; omega

theorem deal_length (f : Int → Nat) (l : List Int) (K : Nat) : (deal f K l).length = lo f l K := by
  induction K with
  | zero => rfl
  | succ K ih => simp only [deal, lo, List.length_append, ih]; rfl

/-- How many have a digit below K. -/
theorem lo_count (f : Int → Nat) (l : List Int) (K : Nat) : lo f l K = (l.filter (fun a => decide (f a < K))).length := by
  induction K with
  | zero => show 0 = _; rw [List.filter_eq_nil_iff.2 (by intro a _; simp)]; rfl
  | succ K ih =>
    simp only [lo, ih, cf, bk]
    clear ih
    induction l with
    | nil => rfl
    | cons a l ih =>
      simp only [List.filter_cons]
      by_cases h1 : f a < K
      · simp [h1, show f a < K + 1 by omega, show ¬ f a = K by omega]; omega
      · by_cases h2 : f a = K
        · simp [h2]; omega
        · simp [h1, h2, show ¬ f a < K + 1 by omega]; omega

theorem lo_le (f : Int → Nat) (l : List Int) (K : Nat) : lo f l K ≤ l.length := by
  rw [lo_count]; exact List.length_filter_le _ _
theorem lo_all {f : Int → Nat} {l : List Int} {K : Nat} (h : ∀ a ∈ l, f a < K) : lo f l K = l.length := by
  rw [lo_count, List.filter_eq_self.2 (by simpa using h)]

theorem deal_mem {f : Int → Nat} {l : List Int} {K : Nat} {a : Int} : a ∈ deal f K l ↔ a ∈ l ∧ f a < K := by
  induction K with
  | zero => simp [deal]
  | succ K ih =>
    simp only [deal, List.mem_append, ih, mem_bk]
    constructor
    · rintro (⟨h1, h2⟩ | ⟨h1, h2⟩)
      · exact ⟨h1, by omega⟩
      · exact ⟨h1, by omega⟩
    · rintro ⟨h1, h2⟩
      by_cases e : f a = K
      · exact .inr ⟨h1, e⟩
      · exact .inl ⟨h1, by omega⟩

/-- A predicate that fixes the digit: the deal keeps what it picks, in order. -/
theorem deal_filter {f : Int → Nat} {K : Nat} (l : List Int) (q : Int → Bool) (v : Nat) (hv : v < K) (hq : ∀ a, q a = true → f a = v) : (deal f K l).filter q = l.filter q := by
  have hb : ∀ u, u ≠ v → (bk f u l).filter q = [] := by
    intro u hu
    rw [List.filter_eq_nil_iff]
    intro a ha hqa
    have := (mem_bk.1 ha).2
    have := hq a hqa
    omega
  have hd : ∀ J, J ≤ v → (deal f J l).filter q = [] := by
    intro J hJ
    rw [List.filter_eq_nil_iff]
    intro a ha hqa
    have := (deal_mem.1 ha).2
    have := hq a hqa
    omega
  have hself : (bk f v l).filter q = l.filter q := by
    unfold bk
    rw [List.filter_filter]
    apply List.filter_congr
    intro a _
    by_cases hqa : q a = true
    · simp [hqa, hq a hqa]
    · simp [Bool.not_eq_true] at hqa; simp [hqa]
  induction K with
  | zero => omega
  | succ K ih =>
    simp only [deal, List.filter_append]
    by_cases e : K = v
    · subst e; rw [hd K (Nat.le_refl _), hself]; rfl
    · rw [ih (by omega), hb K e]; simp

/-- The deal is a permutation, told by counting. -/
theorem deal_count {f : Int → Nat} {K : Nat} {l : List Int} (h : ∀ a ∈ l, f a < K) (q : Int → Bool) : ((deal f K l).filter q).length = (l.filter q).length := by
  have key : ∀ J, ((deal f J l).filter q).length = (l.filter (fun a => q a && decide (f a < J))).length := by
    intro J
    induction J with
    | zero => show 0 = _; rw [List.filter_eq_nil_iff.2 (by intro a _; simp)]; rfl
    | succ J ih =>
      simp only [deal, List.filter_append, List.length_append, ih, bk, List.filter_filter]
      clear ih h
      induction l with
      | nil => rfl
      | cons a l ih =>
        simp only [List.filter_cons]
        cases hq : q a
        · simp [ih]
        · by_cases h1 : f a < J
          · simp [h1, show f a < J + 1 by omega, show ¬ f a = J by omega]; omega
          · by_cases h2 : f a = J
            · simp [h2]; omega
            · simp [h1, h2, show ¬ f a < J + 1 by omega]; omega
  rw [key K]
  congr 1
  apply List.filter_congr
  intro a ha
  simp [h a ha]

theorem lo_deal {f g : Int → Nat} {K : Nat} {l : List Int} (h : ∀ a ∈ l, f a < K) (v : Nat) : lo g (deal f K l) v = lo g l v := by
  rw [lo_count, lo_count, deal_count h]

theorem pw_of {l : List Int} {R' R : Int → Int → Prop} (h : l.Pairwise R') (hm : ∀ a ∈ l, ∀ b ∈ l, R' a b → R a b) : l.Pairwise R := by
  induction l with
  | nil => simp
  | cons a l ih =>
    rw [List.pairwise_cons] at h ⊢
    exact ⟨fun b hb => hm a (by simp) b (by simp [hb]) (h.1 b hb), ih h.2 (fun x hx y hy => hm x (by simp [hx]) y (by simp [hy]))⟩

theorem deal_sorted {f : Int → Nat} {l : List Int} {R' R : Int → Int → Prop} (hl : l.Pairwise R') (h1 : ∀ a b, f a < f b → R a b) (h2 : ∀ a b, f a = f b → R' a b → R a b) (K : Nat) : (deal f K l).Pairwise R := by
  induction K with
  | zero => simp [deal]
  | succ K ih =>
    simp only [deal]
    refine List.pairwise_append.2 ⟨ih, ?_, ?_⟩
    · have hb : (bk f K l).Pairwise R' := hl.filter _
      exact pw_of hb (fun a ha b hb2 hr => h2 _ _ (by rw [(mem_bk.1 ha).2, (mem_bk.1 hb2).2]) hr)
    · intro a ha b hb
      have e1 := (deal_mem.1 ha).2
      have e2 := (mem_bk.1 hb).2
      exact h1 _ _ (by omega)

def upd (g : Nat → Int) (j : Nat) (x : Int) : Nat → Int := fun i => if i = j then x else g i

/-- Of the first k elements each has been laid at its place. -/
def Dealt (f : Int → Nat) (K : Nat) (l : List Int) (k : Nat) (h : Int → Int) (arr : Nat → Int) : Prop :=
  ∀ v r, v < K → r < cf f (l.take k) v → arr (lo f l v + r) = h ((bk f v (l.take k)).getD r 0)

theorem dealt_zero (f : Int → Nat) (K : Nat) (l : List Int) (h : Int → Int) (arr : Nat → Int) : Dealt f K l 0 h arr := by
  intro v r _ hr
  simp [cf, bk] at hr

theorem dealt_step {f : Int → Nat} {K : Nat} {l : List Int} {k : Nat} {h : Int → Int} {arr : Nat → Int} (hd : Dealt f K l k h arr) (hk : k < l.length) (x : Int) (hx : x = h (l.getD k 0)) :
    Dealt f K l (k + 1) h (upd arr (lo f l (f (l.getD k 0)) + cf f (l.take k) (f (l.getD k 0))) x) := by
  intro v r hv hr
  have hlt := cf_take_lt f l k hk
  generalize hp : l.getD k 0 = p at *
  have hs := cf_take_succ f l k v hk
  rw [hp] at hs
  have hmax := cf_take_le f l k v
  by_cases e : f p = v
  · subst e
    rw [if_pos rfl] at hs
    have hb : bk f (f p) (l.take (k + 1)) = bk f (f p) (l.take k) ++ [p] := by rw [take_snoc l k hk, hp, bk_append, bk_one_eq rfl]
    rw [hb]
    by_cases e2 : r = cf f (l.take k) (f p)
    · subst e2
      simp only [upd, if_true]
      rw [hx]
      congr 1
      simp [cf]
    · have hr' : r < cf f (l.take k) (f p) := by omega
      have h0 := hd (f p) r hv hr'
      simp only [upd]
      rw [if_neg (by omega), h0]
      congr 1
      have hr2 : r < (bk f (f p) (l.take k)).length := hr'
      simp only [List.getD_eq_getElem?_getD]
      rw [List.getElem?_append_left hr2]
  · rw [if_neg e, Nat.add_zero] at hs
    rw [hs] at hr
    have hb : bk f v (l.take (k + 1)) = bk f v (l.take k) := by rw [take_snoc l k hk, hp, bk_append, bk_one_ne e, List.append_nil]
    rw [hb, ← hd v r hv hr]
    simp only [upd]
    refine if_neg ?_
    rcases Nat.lt_or_gt_of_ne e with hlt2 | hgt
    · have := lo_mono f l (show f p + 1 ≤ v by omega)
      simp only [lo] at this
      omega
    · have := lo_mono f l (show v + 1 ≤ f p by omega)
      simp only [lo] at this
      omega

theorem place_lt {f : Int → Nat} {l : List Int} {k : Nat} (hk : k < l.length) : lo f l (f (l.getD k 0)) + cf f (l.take k) (f (l.getD k 0)) < l.length := by
  have h1 := cf_take_lt f l k hk
  have h2 := lo_le f l (f (l.getD k 0) + 1)
  simp only [lo] at h2
  omega

theorem dealt_done {f : Int → Nat} {K : Nat} {l : List Int} {h : Int → Int} {arr : Nat → Int} (hd : Dealt f K l l.length h arr) : ∀ j, j < (deal f K l).length → arr j = h ((deal f K l).getD j 0) := by
  have key : ∀ J, J ≤ K → ∀ j, j < (deal f J l).length → arr j = h ((deal f J l).getD j 0) := by
    intro J
    induction J with
    | zero => intro _ j hj; simp [deal] at hj
    | succ J ih =>
      intro hJ j hj
      simp only [deal] at hj ⊢
      by_cases e : j < (deal f J l).length
      · rw [ih (by omega) j e]
        simp only [List.getD_eq_getElem?_getD]
        rw [List.getElem?_append_left e]
      · rw [List.length_append] at hj
        have h1 := hd J (j - (deal f J l).length) (by omega) (by rw [List.take_length]; unfold cf; omega)
        rw [List.take_length] at h1
        rw [deal_length] at h1 hj e
        rw [show lo f l J + (j - lo f l J) = j by omega] at h1
        rw [h1]
        simp only [List.getD_eq_getElem?_getD]
        rw [List.getElem?_append_right (by rw [deal_length]; omega), deal_length]
  exact key K (Nat.le_refl _)
end Go.Proofs.Qxb6000402aMods.Deal
