import Derived.Test.Qxb6606310aModsStr
namespace Go.Proofs.Qxb6606310aMods.Onto
open Go.RowKit Plain
set_option linter.unusedVariables false

theorem info4 : (Trym.prog.info? 4).map (fun i => (i.zero, i.size, i.bytes)) = some (some (.bool false), 1, 1) := by kernel_rfl

theorem Grew.from_alloc {base : Nat} {w w' : World} {v v' : Value} {bs : List Int} {o : Obj} (h : Grew base (w.alloc o) v w' v' bs) : Grew base w v w' v' bs := by
  have hf := World.grownBy_alloc w o none
  refine ⟨h.owns, ⟨h.by_.os.trans hf.os, h.by_.tape.trans hf.tape, h.by_.output.trans hf.output, Nat.le_trans hf.size h.by_.size, fun k hk hne => (h.by_.block k (Nat.lt_of_lt_of_le hk hf.size) hne).trans (hf.block k hk (by simp))⟩, ?_⟩
  rcases h.at_ with e | ⟨g, e, hg⟩
  · exact .inl e
  · exact .inr ⟨g, e, Nat.le_trans hf.size hg⟩

/-- A string of bytes that are written out. -/
theorem str_lit (base : Nat) (v : Value) (bs : List Int) (m : Nat) (raw : List Int) (w : World) (hown : Owns base w v bs) (hb : base ≤ w.heap.size) (hN : bs.length ≤ 1073741824)
    (Hm : raw.length = m) (hm : m ≤ 1048576) (Hw : ∀ c ∈ raw, 0 ≤ c ∧ c ≤ 255) (B : Nat) (hB : B = w.heap.size) :
    Calls Trym.prog 20 #[v, .slice (some ⟨B, 0, none⟩) m m] (w.alloc (.cells (cellsOf raw).toArray 5)) fun e w' => ∃ v' ds, e = .returned v' ∧ Grew base w v w' v' (bs ++ ds) ∧ ds.length ≤ 2 + 6 * m ∧ Hid (Quoted ds) := by
  subst hB
  have hf := World.grownBy_alloc w (.cells (cellsOf raw).toArray 5) none
  refine (str_any base v bs w.heap.size m m raw _ (hown.kept hf (by cases v.ownBlock <;> simp)) (Nat.le_trans hb hf.size) hN Hm hm Hw ?_ ?_).mono ?_
  · intro j hj
    rw [World.cell?_alloc_at _ _ _ _ rfl]
    simp [cellsOf, Hm, hj]
  · show v.ownBlock ≠ some w.heap.size
    intro e
    have := (hown.lt _ e).2
    omega
  · rintro e w' ⟨v', ds, he, hg, h1, h2⟩
    exact ⟨v', ds, he, hg.from_alloc, h1, h2⟩

/-! ### The builder's three rows -/
def cellsB (e : List Bool) : List Value := e.map Value.bool
def OwnsB (base : Nat) (w : World) (v : Value) (e : List Bool) : Prop := w.ownsRow base 4 1 v e.length (cellsB e)

/-- What an append leaves, whatever the row holds. -/
structure Moved (w : World) (v : Value) (w' : World) (v' : Value) : Prop where
  by_ : w.grownBy w' v.ownBlock
  at_ : v'.ownBlock = v.ownBlock ∨ ∃ g, v'.ownBlock = some g ∧ w.heap.size ≤ g

theorem Grew.moved {base : Nat} {w w' : World} {v v' : Value} {bs : List Int} (h : Grew base w v w' v' bs) : Moved w v w' v' := ⟨h.by_, h.at_⟩

def Apart (v u : Value) : Prop := ∀ g, v.ownBlock = some g → u.ownBlock = some g → False

theorem Apart.symm {v u : Value} (h : Apart v u) : Apart u v := fun g a b => h g b a
theorem kept_apart {w w' : World} {base : Nat} {e : TypeId} {v u u' : Value} {n : Nat} {xs : List Value} (h : w.ownsRow base e 1 v n xs) (hm : Moved w u w' u') (ha : Apart v u) : w'.ownsRow base e 1 v n xs := by
  refine h.kept hm.by_ ?_
  cases hv : v.ownBlock with
  | none => exact .inl rfl
  | some g => right; intro e; exact ha g hv e.symm
theorem apart_moved {w w' : World} {base : Nat} {e : TypeId} {v u u' : Value} {n : Nat} {xs : List Value} (h : w.ownsRow base e 1 v n xs) (hm : Moved w u w' u') (ha : Apart v u) : Apart v u' := by
  intro g hv hu
  rcases hm.at_ with e | ⟨g', e, hg⟩
  · exact ha g hv (by rw [← e]; exact hu)
  · rw [e] at hu
    injection hu with hu
    have := (h.lt g hv).2
    omega

/-- The text so far, told by its depth. -/
def Inv (o : List Int) (D : Int) : Prop := (1 ≤ D ∧ Adv o 0 D) ∨ (D = 0 ∧ Plain.Ends o)

structure St (H : Nat) (w wr : World) (vo vs ve : Value) (o s : List Int) (e : List Bool) (N : Nat) (D : Int) : Prop where
  out : Owns H wr vo o
  stk : Owns H wr vs s
  emp : OwnsB H wr ve e
  os : Apart vo vs
  oe : Apart vo ve
  se : Apart vs ve
  below : Below H w wr
  size : H ≤ wr.heap.size
  short : o.length ≤ N
  inv : Inv o D
  head : ∃ c o', o = c :: o' ∧ (c = 123 ∨ c = 91)

section
variable {H : Nat} {w wr w' : World} {vo vs ve vo' vs' ve' : Value} {o s : List Int} {e : List Bool} {N : Nat} {D D' : Int}

theorem St.out_step {ds : List Int} {m : Nat} (h : St H w wr vo vs ve o s e N D) (hg : Grew H wr vo w' vo' (o ++ ds)) (hm : ds.length ≤ m) (hi : Inv (o ++ ds) D') : St H w w' vo' vs ve (o ++ ds) s e (N + m) D' := by
  obtain ⟨c, o', ho, hc⟩ := h.head
  exact ⟨hg.owns, kept_apart h.stk hg.moved h.os.symm, kept_apart h.emp hg.moved h.oe.symm, (apart_moved h.stk hg.moved h.os.symm).symm, (apart_moved h.emp hg.moved h.oe.symm).symm, h.se,
    h.below.trans (hg.below h.out h.size), Nat.le_trans h.size hg.by_.size, by have := h.short; simp; omega, hi, c, o' ++ ds, by rw [ho]; rfl, hc⟩

theorem St.stk_step {s' : List Int} (h : St H w wr vo vs ve o s e N D) (hg : Grew H wr vs w' vs' s') : St H w w' vo vs' ve o s' e N D :=
  ⟨kept_apart h.out hg.moved h.os, hg.owns, kept_apart h.emp hg.moved h.se.symm, apart_moved h.out hg.moved h.os, h.oe, (apart_moved h.emp hg.moved h.se.symm).symm,
    h.below.trans (hg.below h.stk h.size), Nat.le_trans h.size hg.by_.size, h.short, h.inv, h.head⟩

theorem St.emp_step {e' : List Bool} (h : St H w wr vo vs ve o s e N D) (ho : OwnsB H w' ve' e') (hm : Moved wr ve w' ve') : St H w w' vo vs ve' o s e' N D :=
  ⟨kept_apart h.out hm h.oe, kept_apart h.stk hm h.se, ho, h.os, apart_moved h.out hm h.oe, apart_moved h.stk hm h.se,
    h.below.grown hm.by_ h.size (fun k hk => (h.emp.lt k hk).1), Nat.le_trans h.size hm.by_.size, h.short, h.inv, h.head⟩
end

/-- append of true onto the row of bools. -/
theorem app_true (w : World) {ops : Array Oper} {rest : List Oper} {o : Oper} {a : Act} {Q : Exit → Act → World → Prop} (hgd : o.guard = none) (s x : Operand)
    (ho : o.op = .call { callee := .builtin .append, args := #[s, x], argTypes := #[33, 33] })
    (base : Nat) (v : Value) (bs : List Bool) (hs : a.eval s = v) (hown : OwnsB base w v bs) (hx : a.eval x = .slice (some ⟨w.heap.size, 0, none⟩) 1 1)
    (hN : bs.length ≤ 1073741824) (hbase : base ≤ w.heap.size)
    (h : ∀ v' w', OwnsB base w' v' (bs ++ [true]) → Moved w v w' v' → wpList Trym.prog ops Q rest (a.put o.dst v') w') :
    wpList Trym.prog ops Q (o :: rest) a (w.alloc (.cells #[.bool true] 4)) := by
  obtain ⟨i0, hi0, hz0, hz1, hz2⟩ := info_parts info4
  have hf := World.grownBy_alloc w (.cells #[.bool true] 4) none
  refine wpList_append_own_at _ hgd s x 33 ho base 4 i0 (.bool false) 1 1 Trym.underlying33 hi0 hz0 hz1 hz2 rfl (by decide) v _ _ hs (World.ownsRow.alloc hown _) ⟨w.heap.size, 0, none⟩ 1 1 [.bool true] hx rfl (cell_one_new w _ _) (by intro u hu; simp at hu; subst hu; rfl) (by unfold maxLen; omega) (by omega) (Nat.le_trans hbase hf.size) ?_
  intro v' w' h1 h2 _ h4
  refine h v' w' ?_ ⟨⟨h2.os.trans hf.os, h2.tape.trans hf.tape, h2.output.trans hf.output, Nat.le_trans hf.size h2.size, fun k hk hne => (h2.block k (Nat.lt_of_lt_of_le hk hf.size) hne).trans (hf.block k hk (by simp))⟩, ?_⟩
  · have e1 : (bs ++ [true]).length = bs.length + 1 := by simp
    have e2 : cellsB (bs ++ [true]) = cellsB bs ++ [.bool true] := by simp [cellsB]
    unfold OwnsB
    rw [e1, e2]
    exact h1
  · rcases h4 with e | e
    · exact .inl e
    · exact .inr ⟨_, e, hf.size⟩

theorem OwnsB.open {base : Nat} {w : World} {v : Value} {e : List Bool} {n : Nat} (h : OwnsB base w v e) (hn : e.length = n) (h0 : 0 < n) :
    ∃ g cap, v = .slice (some ⟨g, 0, none⟩) n cap := by
  subst hn
  obtain ⟨_, ⟨rfl, h1⟩ | ⟨g, cap, cur, rfl, _⟩⟩ := h
  · omega
  · exact ⟨g, cap, rfl⟩

theorem OwnsB.form {base : Nat} {w : World} {v : Value} {e : List Bool} {n : Nat} (h : OwnsB base w v e) (hn : e.length = n) : ∃ a cap, v = .slice a n cap := by
  subst hn
  obtain ⟨_, ⟨rfl, h0⟩ | ⟨g, cap, cur, rfl, _⟩⟩ := h
  · exact ⟨none, 0, by rw [h0]⟩
  · exact ⟨_, cap, rfl⟩

theorem OwnsB.cell {base : Nat} {w : World} {e : List Bool} {g n cap : Nat} (h : OwnsB base w (.slice (some ⟨g, 0, none⟩) n cap) e) (hn : e.length = n) (j : Nat) (hj : j < n) :
    w.cell? ⟨g, j, none⟩ = some (.bool (e.getD j false)) := by
  subst hn
  rw [World.ownsRow.cellAt h j (by omega)]
  simp [cellsB, hj]

theorem OwnsB.store {base : Nat} {w : World} {e : List Bool} {g n cap : Nat} (h : OwnsB base w (.slice (some ⟨g, 0, none⟩) n cap) e) (hn : e.length = n) (j : Nat) :
    OwnsB base (w.setCell ⟨g, j, none⟩ (.bool false)) (.slice (some ⟨g, 0, none⟩) n cap) (e.set j false) ∧ Moved w (.slice (some ⟨g, 0, none⟩) n cap) (w.setCell ⟨g, j, none⟩ (.bool false)) (.slice (some ⟨g, 0, none⟩) n cap) := by
  subst hn
  obtain ⟨h1, h2⟩ := World.ownsRow.stored h j (.bool false)
  refine ⟨?_, ⟨h2, .inl rfl⟩⟩
  have e1 : (e.set j false).length = e.length := by simp
  have e2 : cellsB (e.set j false) = (cellsB e).set j (.bool false) := by simp [cellsB]
  unfold OwnsB
  rw [e1, e2]
  exact h1

/-- The last byte is taken off. -/
theorem Owns.pop {base : Nat} {w : World} {s : List Int} {g n cap : Nat} (h : Owns base w (.slice (some ⟨g, 0, none⟩) (n + 1) cap) s) (hn : s.length = n + 1) :
    Owns base w (.slice (some ⟨g, 0, none⟩) n cap) (s.take n) ∧ (s.take n).length = n := by
  have hl : (s.take n).length = n := by rw [List.length_take]; omega
  refine ⟨?_, hl⟩
  unfold Owns at h ⊢
  rw [hn] at h
  rw [hl]
  refine ownsRow_pop (last := cellsOf (s.drop n)) (by rw [length_cellsOf]; omega) ?_
  have e : cellsOf (s.take n) ++ cellsOf (s.drop n) = cellsOf s := by simp [cellsOf]
  rw [e]
  exact h
theorem OwnsB.pop {base : Nat} {w : World} {s : List Bool} {g n cap : Nat} (h : OwnsB base w (.slice (some ⟨g, 0, none⟩) (n + 1) cap) s) (hn : s.length = n + 1) :
    OwnsB base w (.slice (some ⟨g, 0, none⟩) n cap) (s.take n) ∧ (s.take n).length = n := by
  have hl : (s.take n).length = n := by rw [List.length_take]; omega
  refine ⟨?_, hl⟩
  unfold OwnsB at h ⊢
  rw [hn] at h
  rw [hl]
  refine ownsRow_pop (last := cellsB (s.drop n)) (by simp [cellsB]; omega) ?_
  have e : cellsB (s.take n) ++ cellsB (s.drop n) = cellsB s := by simp [cellsB]
  rw [e]
  exact h

theorem St.pop {H : Nat} {w wr : World} {vo : Value} {o s : List Int} {e : List Bool} {N n gs caps ge cape : Nat} {D : Int} (h : St H w wr vo (.slice (some ⟨gs, 0, none⟩) (n + 1) caps) (.slice (some ⟨ge, 0, none⟩) (n + 1) cape) o s e N D) (hs : s.length = n + 1) (he : e.length = n + 1) :
    St H w wr vo (.slice (some ⟨gs, 0, none⟩) n caps) (.slice (some ⟨ge, 0, none⟩) n cape) o (s.take n) (e.take n) N D :=
  ⟨h.out, (Owns.pop h.stk hs).1, (OwnsB.pop h.emp he).1, h.os, h.oe, h.se, h.below, h.size, h.short, h.inv, h.head⟩

/-! ### The depth -/
theorem inv_adv {o ds : List Int} {D D' : Int} (h : Inv o D) (h1 : 1 ≤ D) (hd : Adv ds D D') (h2 : 1 ≤ D') : Inv (o ++ ds) D' := by
  rcases h with ⟨_, h⟩ | ⟨h, _⟩
  · exact .inl ⟨h2, adv_app h hd⟩
  · omega
theorem inv_close {o : List Int} {D : Int} (c : Int) (h : Inv o D) (h1 : 1 ≤ D) : Inv (o ++ [if c = 123 then 125 else 93]) (D - 1) := by
  have hc : (if c = 123 then 125 else 93 : Int) = 125 ∨ (if c = 123 then 125 else 93 : Int) = 93 := by split <;> simp
  rcases h with ⟨_, h⟩ | ⟨h, _⟩
  · by_cases hD : D = 1
    · subst hD
      exact .inr ⟨by omega, ends_close h hc⟩
    · exact .inl ⟨by omega, adv_app h (adv_close hc (by omega))⟩
  · omega
end Go.Proofs.Qxb6606310aMods.Onto
