import Derived.Test.Qxb6000402aModsTies
namespace Go.Proofs.Qxb6000402aMods.Deal

/-- The merge of two lists, so many steps. -/
def mg (key : Int → Int) : Nat → List Int → List Int → List Int
  | 0, _, _ => []
  | n + 1, a :: as, b :: bs => if key a ≤ key b then a :: mg key n as (b :: bs) else b :: mg key n (a :: as) bs
  | n + 1, a :: as, [] => a :: mg key n as []
  | n + 1, [], b :: bs => b :: mg key n [] bs
  | _ + 1, [], [] => []

theorem mg_mem (key : Int → Int) : ∀ (n : Nat) (a b : List Int) (x : Int), x ∈ mg key n a b → x ∈ a ∨ x ∈ b := by
  intro n
  induction n with
  | zero => intro a b x h; simp [mg] at h
  | succ n ih =>
    intro a b x h
    match a, b with
    | [], [] => simp [mg] at h
    | a :: as, [] =>
      simp only [mg, List.mem_cons] at h
      rcases h with rfl | h
      · simp
      · rcases ih _ _ _ h with h | h
        · simp [h]
        · simp at h
    | [], b :: bs =>
      simp only [mg, List.mem_cons] at h
      rcases h with rfl | h
      · simp
      · rcases ih _ _ _ h with h | h
        · simp at h
        · simp [h]
    | a :: as, b :: bs =>
      simp only [mg] at h
      split at h
      · rcases List.mem_cons.1 h with rfl | h
        · simp
        · rcases ih _ _ _ h with h | h
          · simp [h]
          · exact .inr h
      · rcases List.mem_cons.1 h with rfl | h
        · simp
        · rcases ih _ _ _ h with h | h
          · exact .inl h
          · simp [h]

theorem mg_sorted (key : Int → Int) : ∀ (n : Nat) (a b : List Int), a.Pairwise (fun x y => key x ≤ key y) → b.Pairwise (fun x y => key x ≤ key y) → (mg key n a b).Pairwise (fun x y => key x ≤ key y) := by
  intro n
  induction n with
  | zero => intro a b _ _; simp [mg]
  | succ n ih =>
    intro a b ha hb
    match a, b with
    | [], [] => simp [mg]
    | a :: as, [] =>
      rw [List.pairwise_cons] at ha
      simp only [mg, List.pairwise_cons]
      refine ⟨fun x hx => ?_, ih _ _ ha.2 hb⟩
      rcases mg_mem key _ _ _ _ hx with h | h
      · exact ha.1 x h
      · simp at h
    | [], b :: bs =>
      rw [List.pairwise_cons] at hb
      simp only [mg, List.pairwise_cons]
      refine ⟨fun x hx => ?_, ih _ _ ha hb.2⟩
      rcases mg_mem key _ _ _ _ hx with h | h
      · simp at h
      · exact hb.1 x h
    | a :: as, b :: bs =>
      have ha' := List.pairwise_cons.1 ha
      have hb' := List.pairwise_cons.1 hb
      simp only [mg]
      split
      · rename_i h
        rw [List.pairwise_cons]
        refine ⟨fun x hx => ?_, ih _ _ ha'.2 hb⟩
        rcases mg_mem key _ _ _ _ hx with h2 | h2
        · exact ha'.1 x h2
        · rcases List.mem_cons.1 h2 with rfl | h2
          · exact h
          · exact Int.le_trans h (hb'.1 x h2)
      · rename_i h
        rw [List.pairwise_cons]
        refine ⟨fun x hx => ?_, ih _ _ ha hb'.2⟩
        rcases mg_mem key _ _ _ _ hx with h2 | h2
        · rcases List.mem_cons.1 h2 with rfl | h2
          · omega
          · have := ha'.1 x h2; omega
        · exact hb'.1 x h2

theorem mg_filter (key : Int → Int) (x : Int) : ∀ (n : Nat) (a b : List Int), n = a.length + b.length → a.Pairwise (fun x y => key x ≤ key y) → (mg key n a b).filter (fun p => key p == x) = a.filter (fun p => key p == x) ++ b.filter (fun p => key p == x) := by
  intro n
  induction n with
  | zero =>
    intro a b h _
    have e1 : a = [] := List.eq_nil_of_length_eq_zero (by omega)
    have e2 : b = [] := List.eq_nil_of_length_eq_zero (by omega)
    subst e1; subst e2; rfl
  | succ n ih =>
    intro a b h ha
    match a, b with
    | [], [] => simp at h
    | a :: as, [] =>
      rw [List.pairwise_cons] at ha
      simp only [List.length_cons, List.length_nil] at h
      simp only [mg, List.filter_cons]
      rw [ih as [] (by simp; omega) ha.2]
      split <;> simp
    | [], b :: bs =>
      simp only [List.length_cons, List.length_nil] at h
      simp only [mg, List.filter_cons]
      rw [ih [] bs (by simp; omega) ha]
      split <;> simp
    | a :: as, b :: bs =>
      have ha' := List.pairwise_cons.1 ha
      simp only [List.length_cons] at h
      simp only [mg]
      split
      · rw [List.filter_cons, ih as (b :: bs) (by simp; omega) ha'.2, List.filter_cons (x := a)]
        split <;> simp
      · rename_i hlt
        rw [List.filter_cons, ih (a :: as) bs (by simp; omega) ha, List.filter_cons (x := b)]
        split
        · rename_i hb
          have e : (a :: as).filter (fun p => key p == x) = [] := by
            rw [List.filter_eq_nil_iff]
            intro y hy hq
            have hb2 : key b = x := by simpa using hb
            have hq2 : key y = x := by simpa using hq
            rcases List.mem_cons.1 hy with rfl | hy
            · omega
            · have := ha'.1 y hy; omega
          rw [e]; simp
        · rfl

/-- l' is l, stably sorted. -/
def Srt (key : Int → Int) (l l' : List Int) : Prop := l'.Pairwise (fun x y => key x ≤ key y) ∧ ∀ x, l'.filter (fun p => key p == x) = l.filter (fun p => key p == x)

theorem srt_merge {key : Int → Int} {a b a' b' : List Int} (ha : Srt key a a') (hb : Srt key b b') : Srt key (a ++ b) (mg key (a'.length + b'.length) a' b') :=
  ⟨mg_sorted key _ _ _ ha.1 hb.1, fun x => by rw [mg_filter key x _ _ _ rfl ha.1, ha.2, hb.2, List.filter_append]⟩
theorem srt_one {key : Int → Int} {l : List Int} (h : l.length ≤ 1) : Srt key l l := by
  refine ⟨?_, fun _ => rfl⟩
  match l, h with
  | [], _ => simp
  | [a], _ => simp
theorem srt_l3 {pts l : List Int} (hg : ∀ p ∈ pts, Good p) (h : Srt pos pts l) : l = l3 pts :=
  sorted_unique pos l (l3 pts) h.1 (l3_sorted hg) (fun x => by rw [h.2, l3_filter hg])

/-- A stretch of a row. -/
def seg (g : Nat → Int) (s e : Nat) : List Int := (List.range (e - s)).map (fun i => g (s + i))
theorem seg_len (g : Nat → Int) (s e : Nat) : (seg g s e).length = e - s := by simp [seg]
theorem seg_cons (g : Nat → Int) {s e : Nat} (h : s < e) : seg g s e = g s :: seg g (s + 1) e := by
  unfold seg
  rw [show e - s = (e - (s + 1)) + 1 by omega, List.range_succ_eq_map]
  simp
  intro a _
  congr 1
  omega
theorem seg_snoc (g : Nat → Int) {s e : Nat} (h : s ≤ e) : seg g s (e + 1) = seg g s e ++ [g e] := by
  unfold seg
  rw [show e + 1 - s = (e - s) + 1 by omega, List.range_succ]
  simp
  congr 1
  omega
theorem seg_nil (g : Nat → Int) {s e : Nat} (h : e ≤ s) : seg g s e = [] := by
  unfold seg; rw [show e - s = 0 by omega]; rfl
theorem seg_congr {g g' : Nat → Int} {s e : Nat} (h : ∀ i, s ≤ i → i < e → g i = g' i) : seg g s e = seg g' s e := by
  unfold seg
  apply List.map_congr_left
  intro a ha
  have := List.mem_range.1 ha
  exact h _ (by omega) (by omega)
theorem seg_upd (g : Nat → Int) (k : Nat) (x : Int) {s e : Nat} (h : e ≤ k) : seg (upd g k x) s e = seg g s e := by
  apply seg_congr
  intro i _ h2
  simp only [upd]
  rw [if_neg (by omega)]
theorem seg_app (g : Nat → Int) {s m e : Nat} (h1 : s ≤ m) (h2 : m ≤ e) : seg g s e = seg g s m ++ seg g m e := by
  unfold seg
  rw [show e - s = (m - s) + (e - m) by omega, List.range_add]
  simp
  intro a _
  congr 1
  omega
theorem seg_get (g : Nat → Int) (e i : Nat) (h : i < e) : (seg g 0 e).getD i 0 = g i := by
  simp [seg, List.getD, h]
theorem seg_list (l : List Int) : seg (fun i => l.getD i 0) 0 l.length = l := by
  apply List.ext_getElem
  · simp [seg]
  · intro i h1 h2
    simp [seg, h2]

/-- In blocks of w the row is stably sorted. -/
def Blk (key : Int → Int) (w n : Nat) (g0 g : Nat → Int) : Prop := ∀ t, Srt key (seg g0 (t * w) (min (t * w + w) n)) (seg g (t * w) (min (t * w + w) n))

theorem blk_one (key : Int → Int) (n : Nat) (g : Nat → Int) : Blk key 1 n g g := fun t => srt_one (by rw [seg_len]; omega)
theorem blk_all {key : Int → Int} {w n : Nat} {g0 g : Nat → Int} (h : Blk key w n g0 g) (hw : n ≤ w) : Srt key (seg g0 0 n) (seg g 0 n) := by
  have := h 0
  rw [show min (0 * w + w) n = n by omega, Nat.zero_mul] at this
  exact this
/-- What one pass lays. -/
def Merged (key : Int → Int) (w n : Nat) (g g' : Nat → Int) (T : Nat) : Prop :=
  ∀ t, t < T → seg g' (t * (2 * w)) (min (t * (2 * w) + 2 * w) n) = mg key (min (t * (2 * w) + 2 * w) n - t * (2 * w)) (seg g (t * (2 * w)) (min (t * (2 * w) + w) n)) (seg g (min (t * (2 * w) + w) n) (min (t * (2 * w) + 2 * w) n))

theorem blk_pass {key : Int → Int} {w n T : Nat} {g0 g g' : Nat → Int} (h : Blk key w n g0 g) (hm : Merged key w n g g' T) (hT : n ≤ T * (2 * w)) : Blk key (2 * w) n g0 g' := by
  intro t
  by_cases ht : t < T
  · have h1 := h (2 * t)
    have h2 := h (2 * t + 1)
    have e1 : 2 * t * w = t * (2 * w) := by rw [Nat.mul_comm 2 t, Nat.mul_assoc]
    have e2 : (2 * t + 1) * w = t * (2 * w) + w := by rw [Nat.add_mul, e1, Nat.one_mul]
    rw [e1] at h1
    rw [e2] at h2
    rw [hm t ht]
    generalize t * (2 * w) = s at *
    rw [show s + w + w = s + 2 * w by omega] at h2
    by_cases hn : s + w ≤ n
    · rw [show min (s + w) n = s + w by omega] at h1 ⊢
      have := srt_merge h1 h2
      rw [seg_len, seg_len, ← seg_app g0 (s := s) (m := s + w) (e := min (s + 2 * w) n) (by omega) (by omega)] at this
      rw [show min (s + 2 * w) n - s = (s + w - s) + (min (s + 2 * w) n - (s + w)) by omega]
      exact this
    · have en : min (s + w) n = n := by omega
      have en2 : min (s + 2 * w) n = n := by omega
      rw [en] at h1 ⊢
      rw [en2] at ⊢
      have h3 : Srt key (seg g0 n n) (seg g n n) := by
        rw [seg_nil g0 (Nat.le_refl n), seg_nil g (Nat.le_refl n)]
        exact srt_one (by simp)
      have := srt_merge h1 h3
      rw [seg_len, seg_len] at this
      rw [seg_nil g0 (Nat.le_refl n), List.append_nil] at this
      rw [show n - s = (n - s) + (n - n) by omega]
      exact this
  · have hle : T * (2 * w) ≤ t * (2 * w) := Nat.mul_le_mul_right _ (by omega)
    rw [seg_nil g0 (by omega), seg_nil g' (by omega)]
    exact srt_one (by simp)
end Go.Proofs.Qxb6000402aMods.Deal
