import Derived.Test.Qxb6000402aModsRows
import Derived.Test.Qxb6000402aModsPts
import Derived.WalkKit
import Derived.WalkSpells
import Derived.WalkLawsBesides
import Derived.BigQuiet
import Derived.BigRegion
import Derived.Deep.QuietTactic
import Derived.Deep.RegionHeld3
import Derived.Deep.DeepCutAuto
namespace Go.Proofs.Qxb6000402aMods.Mem
open Go.RowKit Deal

/-- Block B is a row of the cells xs. -/
def Row (w : World) (B : Nat) (t : TypeId) (xs : List Value) : Prop := w.heap[B]? = some (.cells xs.toArray t (0, 0))

section
variable {w w' : World} {B B' : Nat} {t t' : TypeId} {xs : List Value}

theorem Row.lt (h : Row w B t xs) : B < w.heap.size := (Array.getElem?_eq_some_iff.1 h).1
theorem Row.cell (h : Row w B t xs) (j : Nat) : w.cell? ⟨B, j, none⟩ = xs[j]? := by
  rw [cell_of_row w B j _ t (0, 0) h]; simp
theorem Row.frozen (h : Row w B t xs) (j : Nat) : w.frozen? ⟨B, j, none⟩ = false := frozen_of_row w B j _ t h
theorem Row.set (h : Row w B t xs) (j : Nat) (v : Value) : Row (w.setCell ⟨B, j, none⟩ v) B t (xs.set j v) := by
  have := heap_setCell_same w B j _ t v h
  unfold Row
  rw [this]
  congr 2
  simp
theorem Row.other (h : Row w B t xs) (a : Addr) (v : Value) (hne : B ≠ a.block) : Row (w.setCell a v) B t xs := by
  unfold Row
  rw [heap_setCell_other w a B v (fun e => hne e)]
  exact h
theorem Row.drew (h : Row w B t xs) : Row w.drew B t xs := h
theorem Row.alloc (h : Row w B t xs) (o : Obj) : Row (w.alloc o) B t xs := by
  unfold Row
  rw [Below.heap_alloc _ _ _ h.lt]
  exact h
theorem row_new (w : World) (cs : Array Value) (t : TypeId) : Row (w.alloc (.cells cs t)) w.heap.size t cs.toList := by
  unfold Row
  rw [heap_alloc_new]
end

/-- All old blocks but those of S are as they were. -/
structure Keeps (S : List Nat) (w w' : World) : Prop where
  os : w'.os = w.os
  tape : w'.tape = w.tape
  output : w'.output = w.output
  size : w.heap.size ≤ w'.heap.size
  block : ∀ k, k < w.heap.size → k ∉ S → w'.heap[k]? = w.heap[k]?

theorem info51 : (Trym.prog.info? 51).map (fun i => i.zero.map (fun z => z.cells.toList)) = some (some (List.replicate 6144 (.int .i64 0))) := by kernel_rfl

/-- 6144 zeros, behind a name. -/
def zeros : List Value := List.replicate 6144 (.int .i64 0)

theorem wpList_alloc51 {w : World} {ops : Array Oper} {rest : List Oper} {o : Oper} {a : Act} {Q : Exit → Act → World → Prop} (hgd : o.guard = none) (ho : o.op = .alloc 51)
    (h : ∀ w', Row w' w.heap.size 51 zeros → Keeps [] w w' → w'.heap.size = w.heap.size + 1 → wpList Trym.prog ops Q rest (a.put o.dst (.pointer (some ⟨w.heap.size, 0, none⟩))) w') :
    wpList Trym.prog ops Q (o :: rest) a w := by
  obtain ⟨i, hi⟩ : ∃ i, Trym.prog.info? 51 = some i := by
    cases h0 : Trym.prog.info? 51 with
    | none => have := info51; rw [h0] at this; cases this
    | some i => exact ⟨i, rfl⟩
  obtain ⟨z, hz, hzc⟩ : ∃ z, i.zero = some z ∧ z.cells.toList = zeros := by
    have := info51
    rw [hi] at this
    cases h0 : i.zero with
    | none => rw [Option.map_some, h0] at this; cases this
    | some z => rw [Option.map_some, h0] at this; injection this with this; injection this with this; exact ⟨z, rfl, this⟩
  refine wpList_plain hgd fun K hK => ?_
  have hrow := row_new w z.cells 51
  rw [hzc] at hrow
  have hk : Keeps [] w (w.alloc (.cells z.cells 51)) := ⟨rfl, rfl, rfl, by simp, fun k hk _ => Below.heap_alloc _ _ _ hk⟩
  unfold Oper.wp
  simp [execOp, ho, Instr.alloc, zeroValue, typeInfo, hi, hz, newVar, newRow, newObj, Result.andThen]
  exact hK _ _ (h _ hrow hk (by simp))

/-! ### Rows of numbers, told by a function -/
def cells (k : IntKind) (K : Nat) (g : Nat → Int) : List Value := (List.range K).map (fun i => .int k (g i))
def FRow (w : World) (B : Nat) (t : TypeId) (k : IntKind) (K : Nat) (g : Nat → Int) : Prop := Row w B t (cells k K g)

theorem cells_set (k : IntKind) (K : Nat) (g : Nat → Int) (j : Nat) (x : Int) : (cells k K g).set j (.int k x) = cells k K (upd g j x) := by
  apply List.ext_getElem
  · simp [cells]
  · intro i h1 h2
    simp [cells, List.getElem_set, upd]
    by_cases e : j = i
    · subst e; simp
    · simp [e, show ¬ i = j by omega]

section
variable {w : World} {B K : Nat} {t : TypeId} {k : IntKind} {g : Nat → Int}
theorem FRow.cell (h : FRow w B t k K g) {j : Nat} (hj : j < K) : w.cell? ⟨B, j, none⟩ = some (.int k (g j)) := by
  rw [Row.cell h]; simp [cells, hj]
theorem FRow.set (h : FRow w B t k K g) (j : Nat) (x : Int) : FRow (w.setCell ⟨B, j, none⟩ (.int k x)) B t k K (upd g j x) := by
  unfold FRow; rw [← cells_set]; exact Row.set h j _
theorem FRow.congr {g' : Nat → Int} (h : FRow w B t k K g) (e : ∀ j, j < K → g j = g' j) : FRow w B t k K g' := by
  unfold FRow at h ⊢
  have : cells k K g = cells k K g' := by
    unfold cells
    apply List.map_congr_left
    intro a ha
    rw [e a (by simpa using ha)]
  rw [← this]; exact h
end

/-- The table of three times 2048 counters. -/
def NRow (w : World) (N : Nat) (G : Nat → Nat → Int) : Prop := FRow w N 51 .i64 6144 (fun i => G (i / 2048) (i % 2048))
def upd2 (G : Nat → Nat → Int) (d v : Nat) (x : Int) : Nat → Nat → Int := fun d' v' => if d' = d ∧ v' = v then x else G d' v'

theorem nrow_zero {w : World} {N : Nat} (h : Row w N 51 zeros) : NRow w N (fun _ _ => 0) := by
  unfold NRow FRow
  have : cells .i64 6144 (fun i => (0 : Int)) = zeros := by
    unfold cells zeros
    rw [List.map_const']
    simp
  rw [this]; exact h
theorem NRow.cell {w : World} {N : Nat} {G : Nat → Nat → Int} (h : NRow w N G) {o d v : Nat} (ho : o = d * 2048 + v) (hd : d < 3) (hv : v < 2048) : w.cell? ⟨N, o, none⟩ = some (.int .i64 (G d v)) := by
  have := FRow.cell h (j := o) (by omega)
  rw [this, show o / 2048 = d by omega, show o % 2048 = v by omega]
theorem NRow.set {w : World} {N : Nat} {G : Nat → Nat → Int} (h : NRow w N G) {o d v : Nat} (ho : o = d * 2048 + v) (hv : v < 2048) (x : Int) : NRow (w.setCell ⟨N, o, none⟩ (.int .i64 x)) N (upd2 G d v x) := by
  have h1 := FRow.set h o x
  refine FRow.congr h1 (fun j hj => ?_)
  simp only [upd, upd2]
  by_cases e : j = o
  · subst e
    rw [if_pos rfl, if_pos ⟨by omega, by omega⟩]
  · rw [if_neg e, if_neg (by omega)]

/-! ### The frame -/
theorem Keeps.refl (S : List Nat) (w : World) : Keeps S w w := ⟨rfl, rfl, rfl, Nat.le_refl _, fun _ _ _ => rfl⟩
theorem Keeps.trans {S : List Nat} {a b c : World} (h : Keeps S a b) (k : Keeps S b c) : Keeps S a c :=
  ⟨k.os.trans h.os, k.tape.trans h.tape, k.output.trans h.output, Nat.le_trans h.size k.size, fun i hi hS => (k.block i (Nat.lt_of_lt_of_le hi h.size) hS).trans (h.block i hi hS)⟩
theorem Keeps.more {S T : List Nat} {a b : World} (h : Keeps S a b) (hS : ∀ k ∈ S, k ∈ T) : Keeps T a b :=
  ⟨h.os, h.tape, h.output, h.size, fun i hi hT => h.block i hi (fun e => hT (hS i e))⟩
theorem Keeps.set {S : List Nat} {a b : World} (h : Keeps S a b) {p : Addr} (hp : p.block ∈ S ∨ a.heap.size ≤ p.block) (v : Value) : Keeps S a (b.setCell p v) :=
  ⟨h.os, h.tape, h.output, by simpa using h.size, fun i hi hS => by
    have hne : i ≠ p.block := by
      intro e
      subst e
      rcases hp with h1 | h1
      · exact hS h1
      · omega
    rw [heap_setCell_other b p i v hne]
    exact h.block i hi hS⟩
theorem Keeps.drew {S : List Nat} {a b : World} (h : Keeps S a b) : Keeps S a b.drew := ⟨h.os, h.tape, h.output, h.size, h.block⟩
theorem Row.kept {S : List Nat} {a b : World} {B : Nat} {t : TypeId} {xs : List Value} (h : Row a B t xs) (k : Keeps S a b) (hB : B ∉ S) : Row b B t xs := by
  unfold Row; rw [k.block B h.lt hB]; exact h
theorem Keeps.alloc {S : List Nat} {a b : World} (h : Keeps S a b) (o : Obj) : Keeps S a (b.alloc o) :=
  ⟨h.os, h.tape, h.output, by have := h.size; simp; omega, fun i hi hS => by rw [Below.heap_alloc _ _ _ (Nat.lt_of_lt_of_le hi h.size)]; exact h.block i hi hS⟩
end Go.Proofs.Qxb6000402aMods.Mem
