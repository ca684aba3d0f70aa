namespace Go.Proofs.Qxb6606310aMods.Plain

/-- Where a string ends: what is left of the bytes, whether a backslash stands ahead, the place. -/
def fl : List Int → Bool → Nat → Nat
  | [], _, p => p
  | _ :: l, true, p => fl l false (p + 1)
  | c :: l, false, p => if c = 92 then fl l true (p + 1) else if c = 34 then p + 1 else fl l false (p + 1)

/-- The same at a place of the whole. -/
def flAt (d : List Int) (e : Bool) (k : Nat) : Nat := fl (d.drop k) e k

/-- The flat automaton over brackets: depth, in a string, behind a backslash, the place. -/
def ct : List Int → Int → Bool → Bool → Nat → Nat
  | [], _, _, _, p => p
  | _ :: l, n, true, true, p => ct l n true false (p + 1)
  | c :: l, n, true, false, p => if c = 92 then ct l n true true (p + 1) else if c = 34 then ct l n false false (p + 1) else ct l n true false (p + 1)
  | c :: l, n, false, _, p =>
    if c = 34 then ct l n true false (p + 1)
    else if c = 123 ∨ c = 91 then ct l (n + 1) false false (p + 1)
    else if c = 125 ∨ c = 93 then (if n - 1 = 0 then p + 1 else ct l (n - 1) false false (p + 1))
    else ct l n false false (p + 1)

def ctAt (d : List Int) (n : Int) (s e : Bool) (k : Nat) : Nat := ct (d.drop k) n s e k

/-- A byte at which a scalar ends. -/
def stopB (c : Int) : Bool := c == 32 || c == 9 || c == 10 || c == 13 || c == 44 || c == 58 || c == 34 || c == 91 || c == 93 || c == 123 || c == 125

def sc : List Int → Nat → Nat
  | [], p => p
  | c :: l, p => if stopB c then p else sc l (p + 1)

def scAt (d : List Int) (k : Nat) : Nat := sc (d.drop k) k

/-- The value's end, as both functions reckon it. -/
def valEnd (d : List Int) (i : Nat) : Nat :=
  if i = d.length then i
  else if d.getD i 0 = 34 then flAt d false (i + 1)
  else if d.getD i 0 = 123 ∨ d.getD i 0 = 91 then ctAt d 0 false false i
  else scAt d i

theorem drop_at (d : List Int) (k : Nat) (h : k < d.length) : d.drop k = d.getD k 0 :: d.drop (k + 1) := by
  rw [List.drop_eq_getElem_cons h]
  simp [List.getD, h]

theorem flAt_end (d : List Int) (e : Bool) (k : Nat) (h : d.length ≤ k) : flAt d e k = k := by
  unfold flAt; rw [List.drop_of_length_le h]; cases e <;> rfl

theorem flAt_esc (d : List Int) (k : Nat) (h : k < d.length) : flAt d true k = flAt d false (k + 1) := by
  unfold flAt; rw [drop_at d k h]; rfl

theorem flAt_step (d : List Int) (k : Nat) (h : k < d.length) :
    flAt d false k = if d.getD k 0 = 92 then flAt d true (k + 1) else if d.getD k 0 = 34 then k + 1 else flAt d false (k + 1) := by
  unfold flAt; rw [drop_at d k h]; rfl

theorem fl_ge (l : List Int) : ∀ (e : Bool) (p : Nat), p ≤ fl l e p ∧ fl l e p ≤ p + l.length := by
  induction l with
  | nil => intro e p; cases e <;> simp [fl]
  | cons c l ih =>
    intro e p
    cases e with
    | true => have := ih false (p + 1); simp only [fl, List.length_cons]; omega
    | false =>
      simp only [fl, List.length_cons]
      have h1 := ih true (p + 1)
      have h2 := ih false (p + 1)
      split
      · omega
      · split <;> omega

theorem flAt_ge (d : List Int) (e : Bool) (k : Nat) : k ≤ flAt d e k := (fl_ge _ e k).1
theorem flAt_le (d : List Int) (e : Bool) (k : Nat) (h : k ≤ d.length) : flAt d e k ≤ d.length := by
  have := (fl_ge (d.drop k) e k).2
  unfold flAt; simp at this; omega

/-- In a string the automaton goes on behind the string's end. -/
theorem ct_str (l : List Int) : ∀ (n : Int) (e : Bool) (p : Nat), ct l n true e p = ct (l.drop (fl l e p - p)) n false false (fl l e p) := by
  induction l with
  | nil => intro n e p; cases e <;> simp [ct, fl]
  | cons c l ih =>
    intro n e p
    cases e with
    | true =>
      have h := (fl_ge l false (p + 1)).1
      simp only [ct, fl]
      rw [ih n false (p + 1), show fl l false (p + 1) - p = (fl l false (p + 1) - (p + 1)) + 1 from by omega, List.drop_succ_cons]
    | false =>
      have h := (fl_ge l false (p + 1)).1
      have h' := (fl_ge l true (p + 1)).1
      simp only [ct, fl]
      split
      · rw [ih n true (p + 1), show fl l true (p + 1) - p = (fl l true (p + 1) - (p + 1)) + 1 from by omega, List.drop_succ_cons]
      · split
        · simp
        · rw [ih n false (p + 1), show fl l false (p + 1) - p = (fl l false (p + 1) - (p + 1)) + 1 from by omega, List.drop_succ_cons]

theorem ctAt_str (d : List Int) (n : Int) (e : Bool) (k : Nat) : ctAt d n true e k = ctAt d n false false (flAt d e k) := by
  have h := flAt_ge d e k
  unfold ctAt
  rw [ct_str, List.drop_drop]
  show ct (List.drop (k + (flAt d e k - k)) d) n false false (flAt d e k) = _
  rw [show k + (flAt d e k - k) = flAt d e k from by omega]

theorem ctAt_end (d : List Int) (n : Int) (s e : Bool) (k : Nat) (h : d.length ≤ k) : ctAt d n s e k = k := by
  unfold ctAt; rw [List.drop_of_length_le h]; cases s <;> cases e <;> rfl

theorem ctAt_out (d : List Int) (n : Int) (e : Bool) (k : Nat) (h : k < d.length) :
    ctAt d n false e k = if d.getD k 0 = 34 then ctAt d n true false (k + 1)
    else if d.getD k 0 = 123 ∨ d.getD k 0 = 91 then ctAt d (n + 1) false false (k + 1)
    else if d.getD k 0 = 125 ∨ d.getD k 0 = 93 then (if n - 1 = 0 then k + 1 else ctAt d (n - 1) false false (k + 1))
    else ctAt d n false false (k + 1) := by
  unfold ctAt; rw [drop_at d k h]; cases e <;> rfl

theorem ctAt_in (d : List Int) (n : Int) (k : Nat) (h : k < d.length) :
    ctAt d n true false k = if d.getD k 0 = 92 then ctAt d n true true (k + 1) else if d.getD k 0 = 34 then ctAt d n false false (k + 1) else ctAt d n true false (k + 1) := by
  unfold ctAt; rw [drop_at d k h]; rfl

theorem ctAt_esc (d : List Int) (n : Int) (k : Nat) (h : k < d.length) : ctAt d n true true k = ctAt d n true false (k + 1) := by
  unfold ctAt; rw [drop_at d k h]; rfl

theorem scAt_end (d : List Int) (k : Nat) (h : d.length ≤ k) : scAt d k = k := by
  unfold scAt; rw [List.drop_of_length_le h]; rfl

theorem scAt_step (d : List Int) (k : Nat) (h : k < d.length) : scAt d k = if stopB (d.getD k 0) then k else scAt d (k + 1) := by
  unfold scAt; rw [drop_at d k h]; rfl

/-- How many backslashes stand right ahead of place k, behind place i. -/
def run (d : List Int) (i : Nat) : Nat → Nat
  | 0 => 0
  | k + 1 => if i < k ∧ d.getD k 0 = 92 then run d i k + 1 else 0

theorem run_le (d : List Int) (i k : Nat) : run d i k ≤ k := by
  induction k with
  | zero => simp [run]
  | succ k ih => simp only [run]; split <;> omega

/-- The state of the string's automaton at k, told by the parity. -/
theorem par_step (d : List Int) (i k : Nat) (hik : i < k) (h : k < d.length) (hq : d.getD k 0 = 34 → run d i k % 2 = 1) :
    flAt d (run d i k % 2 == 1) k = flAt d (run d i (k + 1) % 2 == 1) (k + 1) := by
  have hs : run d i (k + 1) = if i < k ∧ d.getD k 0 = 92 then run d i k + 1 else 0 := rfl
  rcases Nat.mod_two_eq_zero_or_one (run d i k) with h0 | h1
  · have hb : (run d i k % 2 == 1) = false := by simp [h0]
    rw [hb, flAt_step d k h, hs]
    by_cases h92 : d.getD k 0 = 92
    · rw [if_pos h92, if_pos ⟨hik, h92⟩]
      have : ((run d i k + 1) % 2 == 1) = true := by simp; omega
      rw [this]
    · by_cases h34 : d.getD k 0 = 34
      · have := hq h34; omega
      · have hn : ¬ (i < k ∧ d.getD k 0 = 92) := fun h => h92 h.2
        rw [if_neg h92, if_neg h34, if_neg hn]; rfl
  · have hb : (run d i k % 2 == 1) = true := by simp [h1]
    rw [hb, flAt_esc d k h, hs]
    by_cases h92 : d.getD k 0 = 92
    · rw [if_pos ⟨hik, h92⟩]
      have : ((run d i k + 1) % 2 == 1) = false := by simp; omega
      rw [this]
    · have hn : ¬ (i < k ∧ d.getD k 0 = 92) := fun h => h92 h.2
      rw [if_neg hn]; rfl

theorem par_hit (d : List Int) (i k : Nat) (h : k < d.length) (hq : d.getD k 0 = 34) (he : run d i k % 2 = 0) :
    flAt d (run d i k % 2 == 1) k = k + 1 := by
  have hb : (run d i k % 2 == 1) = false := by simp [he]
  rw [hb, flAt_step d k h, hq]; simp

theorem run_start (d : List Int) (i : Nat) : run d i (i + 1) = 0 := by simp [run]

end Go.Proofs.Qxb6606310aMods.Plain
