import Derived.Test.Qxb6602314aModsHelp
import Derived.Maps.StringElems
namespace Go.Proofs.Qxb6602314aMods
open Go.RowKit Go.Maps
set_option linter.unusedVariables false

/-- All old blocks but those of S are as they were. -/
structure Keeps (S : List Nat) (w w' : World) : Prop where
  os : w'.os = w.os
  tape : w'.tape = w.tape
  output : w'.output = w.output
  size : w.heap.size ≤ w'.heap.size
  block : ∀ k, k < w.heap.size → k ∉ S → w'.heap[k]? = w.heap[k]?
theorem Keeps.refl (S : List Nat) (w : World) : Keeps S w w := ⟨rfl, rfl, rfl, Nat.le_refl _, fun _ _ _ => rfl⟩
theorem Keeps.trans {S : List Nat} {a b c : World} (h : Keeps S a b) (k : Keeps S b c) : Keeps S a c :=
  ⟨k.os.trans h.os, k.tape.trans h.tape, k.output.trans h.output, Nat.le_trans h.size k.size, fun i hi hS => (k.block i (Nat.lt_of_lt_of_le hi h.size) hS).trans (h.block i hi hS)⟩
theorem Keeps.more {S T : List Nat} {a b : World} (h : Keeps S a b) (hS : ∀ k ∈ S, k ∈ T) : Keeps T a b :=
  ⟨h.os, h.tape, h.output, h.size, fun i hi hT => h.block i hi (fun e => hT (hS i e))⟩
theorem Keeps.alloc {S : List Nat} {a b : World} (h : Keeps S a b) (o : Obj) : Keeps S a (b.alloc o) :=
  ⟨h.os, h.tape, h.output, by have := h.size; simp; omega, fun i hi hS => by rw [Below.heap_alloc _ _ _ (Nat.lt_of_lt_of_le hi h.size)]; exact h.block i hi hS⟩
/-- A step that writes blocks that are new since a, or lie in S. -/
theorem Keeps.grown {S : List Nat} {a b c : World} {row : Option Nat} (h : Keeps S a b) (k : b.grownBy c row) (hr : ∀ j, row = some j → a.heap.size ≤ j ∨ j ∈ S) : Keeps S a c :=
  ⟨k.os.trans h.os, k.tape.trans h.tape, k.output.trans h.output, Nat.le_trans h.size k.size, fun i hi hS => (k.block i (Nat.lt_of_lt_of_le hi h.size) (fun e => by
    rcases hr i e.symm with h1 | h1
    · omega
    · exact hS h1)).trans (h.block i hi hS)⟩
theorem Keeps.drew {S : List Nat} {a b : World} (h : Keeps S a b) : Keeps S a b.drew := ⟨h.os, h.tape, h.output, h.size, h.block⟩
theorem Keeps.drewN {S : List Nat} {a b : World} (h : Keeps S a b) (n : Nat) : Keeps S a (b.drewN n) := ⟨h.os, h.tape, h.output, h.size, h.block⟩
theorem Keeps.ofGrown {a c : World} {row : Option Nat} (k : a.grownBy c row) : Keeps row.toList a c :=
  ⟨k.os, k.tape, k.output, k.size, fun i hi hS => k.block i hi (fun e => hS (by rw [← e]; simp))⟩

theorem MapAt.lt {w : World} {K E : TypeId} {B n : Nat} {f : Lit → Option Lit} (h : MapAt w K E B n f) : B < w.heap.size := by
  obtain ⟨D, h, _⟩ := h
  exact h.lt
theorem MapAt.kept {S : List Nat} {w w' : World} {K E : TypeId} {B n : Nat} {f : Lit → Option Lit} (h : MapAt w K E B n f) (k : Keeps S w w') (hB : B ∉ S) : MapAt w' K E B n f := by
  have hl := h.lt
  obtain ⟨D, ⟨es, clock, hb, r⟩, hr⟩ := h
  exact ⟨D, ⟨es, clock, by rw [k.block B hl hB]; exact hb, r⟩, hr⟩
theorem MapAt.drew {w : World} {K E : TypeId} {B n : Nat} {f : Lit → Option Lit} (h : MapAt w K E B n f) : MapAt w.drew K E B n f := h
/-- Two maps are not one block if their element types part: by what they are. -/
theorem MapAt.store {w : World} {t K E : TypeId} {B n : Nat} {f : Lit → Option Lit} (h : MapAt w K E B n f) (law : Keyed Trym.prog K) (ht : Trym.prog.underlying t = some (.map K E)) (hn : n < maxLen) {key val : Value} {kl vl : Lit}
    (hkey : keyOf Trym.prog K key = some kl) (hv : plainElem (H := Unit) Trym.prog E val = some (.lit vl, [])) :
    ∃ w', (Instr.mapUpdate t (.map (some B)) key val).run Trym.prog w = .ok () w' ∧ MapAt w' K E B (n + 1) (fput f kl vl) ∧ w.grownBy w' (some B) := by
  obtain ⟨D, h, hr⟩ := h
  obtain ⟨w', hrun, hown, hturn⟩ := h.store law ht hn hkey hv
  exact ⟨w', hrun, ⟨_, hown, rd_put hr h.isMap (law.key hkey) vl⟩, hturn.grown⟩
/-- A look-up, the element there. -/
theorem MapAt.look_some {w : World} {t K E : TypeId} {B n : Nat} {f : Lit → Option Lit} (h : MapAt w K E B n f) (c : Bool) (law : Keyed Trym.prog K) (ht : Trym.prog.underlying t = some (.map K E)) {z : Value} (hz : (zeroValue E).run Trym.prog w = .ok z w)
    {key : Value} {kl vl : Lit} (hkey : keyOf Trym.prog K key = some kl) (hf : f kl = some vl) : ∃ v ps, (Instr.lookup t (.map (some B)) key c).run Trym.prog w = .ok (if c then .tuple #[v, .bool true] else v) w ∧ plainElem (H := Unit) Trym.prog E v = some (.lit vl, ps) := by
  obtain ⟨D, ⟨es, clock, hb, F, _, rfl⟩, hr⟩ := h
  have hat0 := hr.2 kl vl hf
  rcases Maps.fit_look c law ht hz hb F hkey with ⟨hrun, _, hat⟩ | ⟨e0, y, _, _, hrun, hRv, hat, _⟩
  · have := (hat .nil).symm.trans (hat0 .nil)
    cases this
  · refine ⟨e0.val, y.2, hrun, ?_⟩
    rw [hRv]
    have e : y.1 = .lit vl := (hat .nil).symm.trans (hat0 .nil)
    rw [← e]
/-- A look-up, no element there. -/
theorem MapAt.look_none {w : World} {t K E : TypeId} {B n : Nat} {f : Lit → Option Lit} (h : MapAt w K E B n f) (c : Bool) (law : Keyed Trym.prog K) (ht : Trym.prog.underlying t = some (.map K E)) {z : Value} (hz : (zeroValue E).run Trym.prog w = .ok z w)
    {key : Value} {kl : Lit} (hkey : keyOf Trym.prog K key = some kl) (hf : f kl = none) : (Instr.lookup t (.map (some B)) key c).run Trym.prog w = .ok (if c then .tuple #[z, .bool false] else z) w := by
  obtain ⟨D, ⟨es, clock, hb, F, _, rfl⟩, hr⟩ := h
  have hat0 := rd_none hr hf
  rcases Maps.fit_look c law ht hz hb F hkey with ⟨hrun, _, hat⟩ | ⟨e0, y, _, _, hrun, hRv, hat, _⟩
  · exact hrun
  · have e1 := (hat .nil).symm.trans (hat0 .nil)
    have e2 := (hat (.lit (.bool true))).symm.trans (hat0 (.lit (.bool true)))
    rw [e1] at e2
    cases e2
/-- Two maps of one view: one length. -/
theorem MapAt.len {w w' : World} {t K E : TypeId} {B B' n n' : Nat} {f : Lit → Option Lit} (h : MapAt w K E B n f) (h' : MapAt w' K E B' n' f) (law : Keyed Trym.prog K) (ht : Trym.prog.underlying t = some (.map K E)) :
    ∃ m : Nat, m ≤ n ∧ (∀ ty, (Builtin.len_ #[t] ty #[.map (some B)]).run Trym.prog w = .ok (.int .i64 m) w) ∧ ∀ ty, (Builtin.len_ #[t] ty #[.map (some B')]).run Trym.prog w' = .ok (.int .i64 m) w' := by
  obtain ⟨D, h, hr⟩ := h
  obtain ⟨D', h', hr'⟩ := h'
  have e : D = D' := rd_one hr hr' (h.canon law) (h'.canon law)
  subst e
  exact ⟨Maps.size D, h.size_le, h.len ht, h'.len ht⟩

/-- The literal that a string reads as. -/
def ls (s : ByteArray) : Lit := .string s.data.toList
def li (x : Int) : Lit := .int .i64 x
theorem ls_inj {s t : ByteArray} (h : ls s = ls t) : s = t := by
  unfold ls at h
  injection h with h
  cases s; cases t
  simpa using h
theorem li_inj {x y : Int} (h : li x = li y) : x = y := by
  unfold li at h
  injection h

/-! ### views by types -/
def sv (f : ByteArray → Option Int) : Lit → Option Lit
  | .string bs => (f ⟨⟨bs⟩⟩).map li
  | _ => none
open Classical in
noncomputable def tv (T : Int → Prop) : Lit → Option Lit
  | .int .i64 x => if T x then some (.bool true) else none
  | _ => none
def nv (g : Int → Option ByteArray) : Lit → Option Lit
  | .int .i64 x => (g x).map ls
  | _ => none
theorem sv_ls (f : ByteArray → Option Int) (s : ByteArray) : sv f (ls s) = (f s).map li := by
  obtain ⟨⟨bs⟩⟩ := s
  rfl
theorem nv_li (g : Int → Option ByteArray) (x : Int) : nv g (li x) = (g x).map ls := rfl
open Classical in
theorem tv_li (T : Int → Prop) (x : Int) : tv T (li x) = if T x then some (.bool true) else none := rfl
open Classical in
noncomputable def upd {α β : Type} (f : α → Option β) (a : α) (b : β) : α → Option β := fun x => if x = a then some b else f x
theorem upd_same {α β : Type} (f : α → Option β) (a : α) (b : β) : upd f a b a = some b := by simp [upd]
theorem upd_other {α β : Type} (f : α → Option β) {a x : α} (b : β) (h : x ≠ a) : upd f a b x = f x := by simp [upd, h]
theorem sv_upd (f : ByteArray → Option Int) (s : ByteArray) (v : Int) : fput (sv f) (ls s) (li v) = sv (upd f s v) := by
  funext k
  unfold fput
  by_cases e : k = ls s
  · subst e; rw [if_pos rfl, sv_ls, upd_same]; rfl
  · rw [if_neg e]
    cases k with
    | string bs =>
      have hne : (⟨⟨bs⟩⟩ : ByteArray) ≠ s := fun h => e (by rw [← h]; rfl)
      show (f ⟨⟨bs⟩⟩).map li = (upd f s v ⟨⟨bs⟩⟩).map li
      rw [upd_other f v hne]
    | _ => rfl
theorem nv_upd (f : Int → Option ByteArray) (x : Int) (v : ByteArray) : fput (nv f) (li x) (ls v) = nv (upd f x v) := by
  funext k
  unfold fput
  by_cases e : k = li x
  · subst e; rw [if_pos rfl, nv_li, upd_same]; rfl
  · rw [if_neg e]
    cases k with
    | int q y =>
      cases q with
      | i64 =>
        have hne : y ≠ x := fun h => e (by rw [h]; rfl)
        show (f y).map ls = (upd f x v y).map ls
        rw [upd_other f v hne]
      | _ => rfl
    | _ => rfl
theorem tv_upd (T : Int → Prop) (x : Int) : fput (tv T) (li x) (.bool true) = tv (fun y => y = x ∨ T y) := by
  funext k
  unfold fput
  by_cases e : k = li x
  · subst e; rw [if_pos rfl, tv_li]; simp
  · rw [if_neg e]
    cases k with
    | int q y =>
      cases q with
      | i64 =>
        have hne : y ≠ x := fun h => e (by rw [h]; rfl)
        show tv T (li y) = tv _ (li y)
        rw [tv_li, tv_li]
        by_cases hT : T y
        · rw [if_pos hT, if_pos (.inr hT)]
        · rw [if_neg hT, if_neg (fun h => h.elim hne hT)]
      | _ => rfl
    | _ => rfl

/-- map[string]int -/
def SI (w : World) (B n : Nat) (f : ByteArray → Option Int) : Prop := MapAt w 9 3 B n (sv f)
/-- map[int]bool, all its elements true -/
def IB (w : World) (B n : Nat) (T : Int → Prop) : Prop := MapAt w 3 4 B n (tv T)
/-- map[int]string -/
def IS (w : World) (B n : Nat) (g : Int → Option ByteArray) : Prop := MapAt w 3 9 B n (nv g)

theorem sv_none : sv (fun _ => none) = fun _ => none := by funext k; cases k <;> rfl
theorem nv_none : nv (fun _ => none) = fun _ => none := by
  funext k
  cases k with
  | int q y => cases q <;> rfl
  | _ => rfl
theorem tv_none : tv (fun _ => False) = fun _ => none := by
  funext k
  cases k with
  | int q y =>
    cases q with
    | i64 => show tv _ (li y) = none; rw [tv_li]; simp
    | _ => rfl
  | _ => rfl
theorem SI.made (w : World) : SI (w.alloc (.map #[] 0)) w.heap.size 0 (fun _ => none) := by
  unfold SI; rw [sv_none]; exact ⟨_, World.ownsMap_made _ _ _ _, rd_empty⟩
theorem IB.made (w : World) : IB (w.alloc (.map #[] 0)) w.heap.size 0 (fun _ => False) := by
  unfold IB; rw [tv_none]; exact ⟨_, World.ownsMap_made _ _ _ _, rd_empty⟩
theorem IS.made (w : World) : IS (w.alloc (.map #[] 0)) w.heap.size 0 (fun _ => none) := by
  unfold IS; rw [nv_none]; exact ⟨_, World.ownsMap_made _ _ _ _, rd_empty⟩

theorem SI.store {w : World} {B n : Nat} {f : ByteArray → Option Int} (h : SI w B n f) (hn : n < maxLen) {s : ByteArray} {v : Int} (hs : s.size ≤ maxLen) (hv : (Lit.int .i64 v).wf = true) :
    ∃ w', (Instr.mapUpdate 27 (.map (some B)) (.string s) (.int .i64 v)).run Trym.prog w = .ok () w' ∧ SI w' B (n + 1) (upd f s v) ∧ w.grownBy w' (some B) := by
  obtain ⟨w', h1, h2, h3⟩ := MapAt.store h lawS Trym.underlying27 hn (Go.WideMaps.keyOf_string_mk Trym.underlying9 (s := s) hs) (plainElem_int Trym.underlying3 hv)
  exact ⟨w', h1, by rw [SI, ← sv_upd]; exact h2, h3⟩
theorem IB.store {w : World} {B n : Nat} {T : Int → Prop} (h : IB w B n T) (hn : n < maxLen) {x : Int} (hx : (Lit.int .i64 x).wf = true) :
    ∃ w', (Instr.mapUpdate 62 (.map (some B)) (.int .i64 x) (.bool true)).run Trym.prog w = .ok () w' ∧ IB w' B (n + 1) (fun y => y = x ∨ T y) ∧ w.grownBy w' (some B) := by
  obtain ⟨w', h1, h2, h3⟩ := MapAt.store h lawI Trym.underlying62 hn (keyOf_int_mk Trym.underlying3 hx) (plainElem_bool Trym.underlying4 true)
  exact ⟨w', h1, by rw [IB, ← tv_upd]; exact h2, h3⟩
theorem IS.store {w : World} {B n : Nat} {g : Int → Option ByteArray} (h : IS w B n g) (hn : n < maxLen) {x : Int} {s : ByteArray} (hx : (Lit.int .i64 x).wf = true) (hs : s.size ≤ maxLen) :
    ∃ w', (Instr.mapUpdate 67 (.map (some B)) (.int .i64 x) (.string s)).run Trym.prog w = .ok () w' ∧ IS w' B (n + 1) (upd g x s) ∧ w.grownBy w' (some B) := by
  obtain ⟨w', h1, h2, h3⟩ := MapAt.store h lawI Trym.underlying67 hn (keyOf_int_mk Trym.underlying3 hx) (plainElem_string Trym.underlying9 hs)
  exact ⟨w', h1, by rw [IS, ← nv_upd]; exact h2, h3⟩

theorem SI.yes {w : World} {B n : Nat} {f : ByteArray → Option Int} (h : SI w B n f) {s : ByteArray} {v : Int} (hs : s.size ≤ maxLen) (hf : f s = some v) :
    (Instr.lookup 27 (.map (some B)) (.string s) true).run Trym.prog w = .ok (.tuple #[.int .i64 v, .bool true]) w := by
  obtain ⟨x, ps, h1, h2⟩ := MapAt.look_some h true lawS Trym.underlying27 (zero3 w) (Go.WideMaps.keyOf_string_mk Trym.underlying9 (s := s) hs) (vl := li v) (by show sv f (ls s) = _; rw [sv_ls, hf]; rfl)
  obtain ⟨c, rfl, hc, _⟩ := plainElem_int_inv Trym.underlying3 h2
  have e : v = c := by
    injection hc with hc _
    injection hc with hc
    exact li_inj hc
  subst e
  exact h1
theorem SI.no {w : World} {B n : Nat} {f : ByteArray → Option Int} (h : SI w B n f) {s : ByteArray} (hs : s.size ≤ maxLen) (hf : f s = none) :
    (Instr.lookup 27 (.map (some B)) (.string s) true).run Trym.prog w = .ok (.tuple #[.int .i64 0, .bool false]) w :=
  MapAt.look_none h true lawS Trym.underlying27 (zero3 w) (Go.WideMaps.keyOf_string_mk Trym.underlying9 (s := s) hs) (by show sv f (ls s) = _; rw [sv_ls, hf]; rfl)
theorem IS.yes {w : World} {B n : Nat} {g : Int → Option ByteArray} (h : IS w B n g) {s : ByteArray} {v : Int} (hv : (Lit.int .i64 v).wf = true) (hf : g v = some s) :
    (Instr.lookup 67 (.map (some B)) (.int .i64 v) true).run Trym.prog w = .ok (.tuple #[.string s, .bool true]) w := by
  obtain ⟨x, ps, h1, h2⟩ := MapAt.look_some h true lawI Trym.underlying67 (zero9 w) (keyOf_int_mk Trym.underlying3 hv) (vl := ls s) (by show nv g (li v) = _; rw [nv_li, hf]; rfl)
  obtain ⟨c, rfl, hc, _⟩ := plainElem_string_inv Trym.underlying9 h2
  have e : s = c := by
    injection hc with hc _
    injection hc with hc
    exact ls_inj hc
  subst e
  exact h1
theorem IS.no {w : World} {B n : Nat} {g : Int → Option ByteArray} (h : IS w B n g) {v : Int} (hv : (Lit.int .i64 v).wf = true) (hf : g v = none) :
    (Instr.lookup 67 (.map (some B)) (.int .i64 v) true).run Trym.prog w = .ok (.tuple #[.string ByteArray.empty, .bool false]) w :=
  MapAt.look_none h true lawI Trym.underlying67 (zero9 w) (keyOf_int_mk Trym.underlying3 hv) (by show nv g (li v) = _; rw [nv_li, hf]; rfl)
theorem IB.yes {w : World} {B n : Nat} {T : Int → Prop} (h : IB w B n T) {v : Int} (hv : (Lit.int .i64 v).wf = true) (hT : T v) :
    (Instr.lookup 62 (.map (some B)) (.int .i64 v) false).run Trym.prog w = .ok (.bool true) w := by
  obtain ⟨x, ps, h1, h2⟩ := MapAt.look_some h false lawI Trym.underlying62 (zero4 w) (keyOf_int_mk Trym.underlying3 hv) (vl := .bool true) (by show tv T (li v) = _; rw [tv_li, if_pos hT])
  have e : x = .bool true := by
    unfold plainElem at h2
    rw [Trym.underlying4] at h2
    cases x <;> simp at h2
    rw [h2.1]
  subst e
  exact h1
theorem IB.no {w : World} {B n : Nat} {T : Int → Prop} (h : IB w B n T) {v : Int} (hv : (Lit.int .i64 v).wf = true) (hT : ¬ T v) :
    (Instr.lookup 62 (.map (some B)) (.int .i64 v) false).run Trym.prog w = .ok (.bool false) w :=
  MapAt.look_none h false lawI Trym.underlying62 (zero4 w) (keyOf_int_mk Trym.underlying3 hv) (by show tv T (li v) = _; rw [tv_li, if_neg hT])

/-! ### a range over a map[string]int -/
/-- A range under way: L: what is still to come. -/
def SR (w : World) (B r n : Nat) (f : ByteArray → Option Int) (L : ByteArray → Prop) (cnt : Nat) : Prop :=
  ∃ (D : DataW Unit) (left : Lit → Bool), w.ranges Trym.prog 9 (plainElem Trym.prog 3) B r n D left cnt ∧ Rd D (sv f) ∧ ∀ s, L s ↔ left (ls s) = true
theorem SR.left_eq {w : World} {B r n : Nat} {f : ByteArray → Option Int} {L : ByteArray → Prop} {cnt : Nat} (h : SR w B r n f L cnt) : w.rangeLeft B r = cnt := by
  obtain ⟨D, left, h, _⟩ := h
  exact h.left_eq
theorem SR.si {w : World} {B r n : Nat} {f : ByteArray → Option Int} {L : ByteArray → Prop} {cnt : Nat} (h : SR w B r n f L cnt) : SI w B n f := by
  obtain ⟨D, left, h, hr, _⟩ := h
  exact ⟨D, h.owns, hr⟩
theorem SR.kept {w w' : World} {B r n : Nat} {f : ByteArray → Option Int} {L : ByteArray → Prop} {cnt : Nat} (h : SR w B r n f L cnt) {row : Option Nat} (hg : w.grownBy w' row) (hb' : some B ≠ row) (hr' : some r ≠ row) : SR w' B r n f L cnt := by
  obtain ⟨D, left, h, hr, hl⟩ := h
  exact ⟨D, left, h.kept hg hb' hr', hr, hl⟩

section
variable (w : World) {ops : Array Oper} {rest : List Oper} {o : Oper} {a : Act} {Q : Exit → Act → World → Prop}
theorem wpList_range_si (hg : o.guard = none) (m : Operand) (hop : o.op = Op.range 27 m) (B n : Nat) (f : ByteArray → Option Int) (hm : a.eval m = .map (some B)) (h : SI w B n f)
    (hK : ∀ w' cnt, SR w' B w.heap.size n f (fun s => (f s).isSome = true) cnt → cnt ≤ n → w.grownBy w' none → w'.heap.size = w.heap.size + 1 → wpList Trym.prog ops Q rest (a.put o.dst (.pointer (some ⟨w.heap.size, 0, none⟩))) w') :
    wpList Trym.prog ops Q (o :: rest) a w := by
  obtain ⟨D, h, hr⟩ := h
  refine wpList_range_own w hg m 27 hop 9 3 lawS Trym.underlying27 _ B n D hm h (fun w' h1 h2 h3 => ?_)
  exact hK w' _ ⟨D, _, h1, hr, fun s => by rw [hr.1, sv_ls]; cases e : f s <;> simp [e]⟩ h.size_le h2 h3
theorem wpList_next_si (hg : o.guard = none) (it : Operand) (hop : o.op = Op.next it false) (B r n : Nat) (f : ByteArray → Option Int) (L : ByteArray → Prop) (cnt : Nat)
    (hit : a.eval it = .pointer (some ⟨r, 0, none⟩)) (h : SR w B r n f L cnt)
    (hDone : (∀ s, ¬ L s) → wpList Trym.prog ops Q rest (a.put o.dst (.tuple #[.bool false])) w)
    (hMore : ∀ (s : ByteArray) (v : Int) (w' : World) (cnt' : Nat), f s = some v → L s → SR w' B r n f (fun t => L t ∧ t ≠ s) cnt' → cnt' < cnt → w.grownBy w' (some r) →
      (Instr.entry (.pointer (some ⟨r, 0, none⟩))).run Trym.prog w' = .ok (.tuple #[.string s, .int .i64 v]) w' → wpList Trym.prog ops Q rest (a.put o.dst (.tuple #[.bool true, .string s, .int .i64 v])) w') :
    wpList Trym.prog ops Q (o :: rest) a w := by
  obtain ⟨D, left, h, hr, hl⟩ := h
  have invS : ∀ key kl, keyOf Trym.prog 9 key = some kl → ∃ s : ByteArray, key = .string s ∧ kl = ls s := by
    intro key kl hkey
    cases key <;> simp [keyOf, Trym.underlying9, mapKey] at hkey
    rename_i s
    exact ⟨s, rfl, hkey.2.symm⟩
  refine wpList_next_ranges w hg it hop 9 lawS (plainElem Trym.prog 3) Value.string (Value.int .i64) (fun key kl hkey => by obtain ⟨x, rfl, _⟩ := invS key kl hkey; exact ⟨x, rfl⟩) (fun v y hv => by obtain ⟨c, rfl, _⟩ := plainElem_int_inv Trym.underlying3 hv; exact ⟨c, rfl⟩)
    B r n D left cnt hit h (fun h0 hn => hDone (fun s => by rw [hl, hn]; simp)) ?_
  intro x c kl y w' cnt' hkey hlk hv hat hrg hlt hgr hsz hen
  obtain ⟨s, e1, rfl⟩ := invS _ _ hkey
  cases e1
  obtain ⟨c', e2, rfl, hwc⟩ := plainElem_int_inv Trym.underlying3 hv
  cases e2
  have hf : f x = some c := by
    have h1 : sv f (ls x) = some (li c) := by
      cases e : sv f (ls x) with
      | none => have := (rd_none hr e .nil).symm.trans (hat .nil); cases this
      | some v' =>
        have := (hr.2 _ _ e .nil).symm.trans (hat .nil)
        injection this with this
        rw [this]; rfl
    rw [sv_ls] at h1
    cases e : f x with
    | none => rw [e] at h1; cases h1
    | some v' =>
      rw [e] at h1
      injection h1 with h1
      rw [li_inj h1]
  refine hMore x c w' cnt' hf ((hl x).2 hlk) ⟨D, _, hrg, hr, fun t => ?_⟩ hlt hgr hen
  show L t ∧ t ≠ x ↔ _
  rw [hl]
  constructor
  · intro ⟨h1, h2⟩
    rw [h1, sameKey_ne (fun e => h2 (ls_inj e))]
    rfl
  · intro h1
    simp at h1
    refine ⟨h1.1, fun e => ?_⟩
    subst e
    rw [WideAt.sameKey_self (lawS.key hkey)] at h1
    simp at h1
end
end Go.Proofs.Qxb6602314aMods
