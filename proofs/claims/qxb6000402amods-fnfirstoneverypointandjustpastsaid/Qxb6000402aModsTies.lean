import Derived.Test.Qxb6000402aModsDis
namespace Go.Proofs.Qxb6000402aMods.Deal

/-- What stands between a and b is just what q picks. -/
theorem filter_run (l : List Int) (q : Int → Bool) (a b : Nat) (hab : a ≤ b) (hb : b ≤ l.length) (h : ∀ i, i < l.length → (q (l.getD i 0) = true ↔ a ≤ i ∧ i < b)) : l.filter q = (l.drop a).take (b - a) := by
  have gd : ∀ i (hi : i < l.length), l.getD i 0 = l[i] := fun i hi => by simp [List.getD, hi]
  have e : l = l.take a ++ ((l.drop a).take (b - a) ++ l.drop b) := by
    have e1 : l.drop b = (l.drop a).drop (b - a) := by rw [List.drop_drop]; congr 1; omega
    rw [e1, List.take_append_drop, List.take_append_drop]
  have f1 : (l.take a).filter q = [] := by
    rw [List.filter_eq_nil_iff]
    intro x hx hq
    obtain ⟨i, hi, rfl⟩ := List.getElem_of_mem hx
    rw [List.length_take] at hi
    rw [List.getElem_take, ← gd i (by omega)] at hq
    have := (h i (by omega)).1 hq
    omega
  have f2 : ((l.drop a).take (b - a)).filter q = (l.drop a).take (b - a) := by
    rw [List.filter_eq_self]
    intro x hx
    obtain ⟨i, hi, rfl⟩ := List.getElem_of_mem hx
    rw [List.length_take, List.length_drop] at hi
    rw [List.getElem_take, List.getElem_drop, ← gd (a + i) (by omega)]
    exact (h (a + i) (by omega)).2 ⟨by omega, by omega⟩
  have f3 : (l.drop b).filter q = [] := by
    rw [List.filter_eq_nil_iff]
    intro x hx hq
    obtain ⟨i, hi, rfl⟩ := List.getElem_of_mem hx
    rw [List.length_drop] at hi
    rw [List.getElem_drop, ← gd (b + i) (by omega)] at hq
    have := (h (b + i) (by omega)).1 hq
    omega
  have : l.filter q = (l.take a ++ ((l.drop a).take (b - a) ++ l.drop b)).filter q := by rw [← e]
  rw [this, List.filter_append, List.filter_append, f1, f2, f3]
  simp

theorem run_get (l : List Int) (q : Int → Bool) (a b k : Nat) (hab : a ≤ b) (hb : b ≤ l.length) (hk : k < b - a) (h : ∀ i, i < l.length → (q (l.getD i 0) = true ↔ a ≤ i ∧ i < b)) : (l.filter q).getD k 0 = l.getD (a + k) 0 ∧ (l.filter q).length = b - a := by
  rw [filter_run l q a b hab hb h]
  refine ⟨?_, by rw [List.length_take, List.length_drop]; omega⟩
  simp only [List.getD_eq_getElem?_getD]
  rw [List.getElem?_take_of_lt hk, List.getElem?_drop]

theorem good_rev {pts : List Int} (h : ∀ p ∈ pts, Good p) : ∀ p ∈ pts.reverse, Good p := fun p hp => h p (List.mem_reverse.1 hp)

theorem map_filter_pos (l : List Int) (x : Int) : (l.map pos).filter (fun y => y == x) = List.replicate (l.filter (fun p => pos p == x)).length x := by
  induction l with
  | nil => rfl
  | cons a l ih =>
    simp only [List.map_cons, List.filter_cons]
    by_cases e : pos a = x
    · simp [e, List.replicate_succ, ih]
    · simp [e, ih]

/-- Listing backwards leaves the positions as they were. -/
theorem pos_rev {pts : List Int} (h : ∀ p ∈ pts, Good p) : (l3 pts.reverse).map pos = (l3 pts).map pos := by
  refine sorted_unique (fun y => y) _ _ ?_ ?_ (fun x => ?_)
  · exact List.pairwise_map.2 (l3_sorted (good_rev h))
  · exact List.pairwise_map.2 (l3_sorted h)
  · rw [map_filter_pos, map_filter_pos, l3_filter (good_rev h), l3_filter h, List.filter_reverse, List.length_reverse]

theorem getD_map (f : Int → Int) (l : List Int) (i : Nat) (h : i < l.length) : (l.map f).getD i 0 = f (l.getD i 0) := by
  simp [List.getD, h]

theorem pos_rev_at {pts : List Int} (h : ∀ p ∈ pts, Good p) {i : Nat} (hi : i < pts.length) : pos ((l3 pts.reverse).getD i 0) = pos ((l3 pts).getD i 0) := by
  have e := pos_rev h
  have h1 : i < (l3 pts.reverse).length := by rw [len_l3 (good_rev h), List.length_reverse]; exact hi
  have h2 : i < (l3 pts).length := by rw [len_l3 h]; exact hi
  rw [← getD_map pos _ i h1, ← getD_map pos _ i h2, e]

theorem rev_get (l : List Int) (k : Nat) (h : k < l.length) : l.reverse.getD k 0 = l.getD (l.length - 1 - k) 0 := by
  have h2 : l.length - 1 - k < l.length := by omega
  simp only [List.getD_eq_getElem?_getD]
  rw [List.getElem?_reverse h]

/-- In a run of equal positions the owners stand backwards. -/
theorem tie_rev {pts : List Int} (h : ∀ p ∈ pts, Good p) {a b k : Nat} (x : Int) (hab : a ≤ b) (hb : b ≤ pts.length) (hk : k < b - a) (hr : ∀ i, i < pts.length → (pos ((l3 pts).getD i 0) = x ↔ a ≤ i ∧ i < b)) :
    (l3 pts.reverse).getD (a + k) 0 = (l3 pts).getD (b - 1 - k) 0 := by
  have hl1 := len_l3 h
  have hl2 : (l3 pts.reverse).length = pts.length := by rw [len_l3 (good_rev h), List.length_reverse]
  have r1 := run_get (l3 pts) (fun p => pos p == x) a b (b - a - 1 - k) hab (by omega) (by omega) (fun i hi => by rw [beq_iff_eq]; exact hr i (by omega))
  have r2 := run_get (l3 pts.reverse) (fun p => pos p == x) a b k hab (by omega) hk (fun i hi => by rw [beq_iff_eq, pos_rev_at h (by omega)]; exact hr i (by omega))
  rw [l3_filter h] at r1
  rw [l3_filter (good_rev h), List.filter_reverse] at r2
  have e : a + (b - a - 1 - k) = b - 1 - k := by omega
  rw [← r2.1, rev_get _ k (by rw [r1.2]; exact hk), r1.2, r1.1, e]

theorem dis_rev {pts : List Int} (h : ∀ p ∈ pts, Good p) (m : Nat) : dis m ((l3 pts.reverse).map own) = dis m ((l3 pts).map own) := by
  apply dis_congr
  intro v _
  simp only [List.mem_map]
  constructor
  · rintro ⟨p, hp, e⟩
    exact ⟨p, (mem_l3 h).2 (List.mem_reverse.1 ((mem_l3 (good_rev h)).1 hp)), e⟩
  · rintro ⟨p, hp, e⟩
    exact ⟨p, (mem_l3 (good_rev h)).2 (List.mem_reverse.2 ((mem_l3 h).1 hp)), e⟩

theorem sorted_le (l : List Int) (hs : l.Pairwise (fun a b => pos a ≤ pos b)) {i j : Nat} (hij : i ≤ j) (hj : j < l.length) : pos (l.getD i 0) ≤ pos (l.getD j 0) := by
  by_cases e : i = j
  · subst e; exact Int.le_refl _
  · have h1 : i < l.length := by omega
    have := List.pairwise_iff_getElem.1 hs i j h1 hj (by omega)
    simpa [List.getD, h1, hj] using this
/-- Ascending, by places. -/
theorem l3_le {pts : List Int} (h : ∀ p ∈ pts, Good p) {i j : Nat} (hij : i ≤ j) (hj : j < pts.length) : pos ((l3 pts).getD i 0) ≤ pos ((l3 pts).getD j 0) :=
  sorted_le (l3 pts) (l3_sorted h) hij (by rw [len_l3 h]; exact hj)
end Go.Proofs.Qxb6000402aMods.Deal
