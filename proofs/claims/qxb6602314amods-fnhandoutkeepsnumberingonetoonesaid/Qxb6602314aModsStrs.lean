import Derived.Test.Qxb6602314aModsAgree
import Derived.Maps.AppendAt
namespace Go.Proofs.Qxb6602314aMods
open Go.RowKit Go.Maps
set_option linter.unusedVariables false

theorem info9 : (Trym.prog.info? 9).map (fun i => (i.zero, i.size, i.bytes)) = some (some (.string ByteArray.empty), 1, 16) := by kernel_rfl
def cellsOf (ss : List ByteArray) : List Value := ss.map Value.string
/-- A slice of strings of the call's own. -/
def Owns (base : Nat) (w : World) (v : Value) (ss : List ByteArray) : Prop := w.ownsRow base 9 1 v ss.length (cellsOf ss)
/-- A slice of strings. -/
def StrsAt (w : World) (v : Value) (ss : List ByteArray) : Prop := ∃ a c, v = .slice a ss.length c ∧ NmsIn w a ss.length (fun j => ss.getD j ByteArray.empty)
theorem Owns.strs {base : Nat} {w : World} {v : Value} {ss : List ByteArray} (h : Owns base w v ss) : StrsAt w v ss := by
  have h0 := h
  obtain ⟨h1, ⟨rfl, h2⟩ | ⟨g, cap, cur, rfl, h2, h3, h4⟩⟩ := h
  · exact ⟨none, 0, by rw [h2], fun hp => by omega⟩
  · refine ⟨_, cap, rfl, fun hp => ⟨g, 0, rfl, World.ownsRow.lt h0 g rfl |>.2, fun j hj => ?_⟩⟩
    have := World.ownsRow.cellAt h0 j (by omega)
    rw [Nat.zero_add, this]
    simp [cellsOf, hj]
theorem Owns.kept {base : Nat} {w w' : World} {v : Value} {ss : List ByteArray} {row : Option Nat} (h : Owns base w v ss) (hg : w.grownBy w' row) (hne : v.ownBlock = none ∨ v.ownBlock ≠ row) : Owns base w' v ss :=
  World.ownsRow.kept h hg hne
theorem Owns.nil (base : Nat) (w : World) : Owns base w (.slice none 0 0) [] := World.ownsRow_nil w base 9 1
/-- A row of the call's own lies apart from every block below its base. -/
theorem Owns.apart {base : Nat} {w : World} {v : Value} {ss : List ByteArray} (h : Owns base w v ss) {k : Nat} (hk : k < base) : v.ownBlock = none ∨ v.ownBlock ≠ some k := by
  cases e : v.ownBlock with
  | none => exact .inl rfl
  | some j =>
    have := (World.ownsRow.lt h j e).1
    exact .inr (fun e2 => by injection e2; omega)

/-- append of one string. -/
theorem app_one (w : World) {ops : Array Oper} {rest : List Oper} {o : Oper} {a : Act} {Q : Exit → Act → World → Prop} (hgd : o.guard = none) (s x : Operand)
    (ho : o.op = .call { callee := .builtin .append, args := #[s, x], argTypes := #[23, 23] })
    (base : Nat) (v : Value) (ss : List ByteArray) (y : ByteArray) (hs : a.eval s = v) (hown : Owns base w v ss) (hx : a.eval x = .slice (some ⟨w.heap.size, 0, none⟩) 1 1)
    (hN : ss.length ≤ 1073741824) (hbase : base ≤ w.heap.size)
    (h : ∀ v' w', Owns base w' v' (ss ++ [y]) → w.grownBy w' v.ownBlock → wpList Trym.prog ops Q rest (a.put o.dst v') w') :
    wpList Trym.prog ops Q (o :: rest) a (w.alloc (.cells #[.string y] 9)) := by
  obtain ⟨i0, hi0, hz0, hz1, hz2⟩ := info_parts info9
  have hf := World.grownBy_alloc w (.cells #[.string y] 9) none
  refine wpList_append_own_at _ hgd s x 23 ho base 9 i0 (.string ByteArray.empty) 1 16 Trym.underlying23 hi0 hz0 hz1 hz2 rfl (by decide) v _ _ hs (World.ownsRow.alloc hown _) ⟨w.heap.size, 0, none⟩ 1 1 [.string y] hx rfl (cell_one_new w _ _) (by intro u hu; simp at hu; subst hu; rfl) (by unfold maxLen; omega) (by omega) (Nat.le_trans hbase hf.size) ?_
  intro v' w' h1 h2 _ h4
  refine h v' w' ?_ ⟨h2.os.trans hf.os, h2.tape.trans hf.tape, h2.output.trans hf.output, Nat.le_trans hf.size h2.size, fun k hk hne => (h2.block k (Nat.lt_of_lt_of_le hk hf.size) hne).trans (hf.block k hk (by simp))⟩
  have e1 : (ss ++ [y]).length = ss.length + 1 := by simp
  have e2 : cellsOf (ss ++ [y]) = cellsOf ss ++ [.string y] := by simp [cellsOf]
  unfold Owns
  rw [e1, e2]
  exact h1

set_option maxHeartbeats 1000000 in
theorem sameStrings_any (a a' : Option Addr) (m c c' : Nat) (f f' : Nat → ByteArray) (w : World) (hm : m ≤ 1048576) (h : Hid (NmsIn w a m f)) (h' : Hid (NmsIn w a' m f')) (hs : Hid (∀ j, j < m → f j = f' j)) :
    Calls Trym.prog 14 #[.slice a m c, .slice a' m c'] w fun e w' => ∃ n, e = .returned (.bool true) ∧ w' = w.drewN n := by
  go_enter Trym.func14, Trym.ntmps14
  go_wp2_with fail
  go_loopw [5] (fun iv wr => ∃ i n : Nat, iv = .int .i64 i ∧ i ≤ m ∧ wr = w.drewN n) (fun iv _ => m - (intOf iv).toNat)
  case atStart => exact ⟨0, 0, rfl, by omega, rfl⟩
  case round =>
    obtain ⟨i, n, rfl, hi, rfl⟩ := hrel
    by_cases hlt : i < m
    · obtain ⟨b, off, hx, hb, hc⟩ := h.out (by omega)
      obtain ⟨b', off', hx', hb', hc'⟩ := h'.out (by omega)
      subst hx; subst hx'
      have h1 : w.cell? ⟨b, off + i, none⟩ = some (.string (f i)) := hc i hlt
      have h2 : w.cell? ⟨b', off' + i, none⟩ = some (.string (f i)) := by rw [hs.out i hlt]; exact hc' i hlt
      generalize f i = y at h1 h2
      clear hc hc'
      go_wp2_with fail
      go_quiet (fail)
      go_wp2_with fail
      go_roundw
      case rel => exact ⟨i + 1, _, by go_num, by omega, rfl⟩
      case measure => simp [intOf]; omega
    · go_wp2_with fail
      go_ret
      exact ⟨_, rfl, rfl⟩

set_option maxHeartbeats 1000000 in
theorem sameAt_any (B B' n n' : Nat) (g : ByteArray → Option Int) (s : ByteArray) (w : World) (h : Hid (SI w B n g)) (h' : Hid (SI w B' n' g)) (hs : s.size ≤ 1048576) :
    Calls Trym.prog 15 #[.map (some B), .map (some B'), .string s] w fun e w' => e = .returned (.bool true) ∧ w' = w := by
  have hs1 : s.size ≤ maxLen := Nat.le_trans hs (by unfold maxLen; omega)
  cases hg : g s with
  | none =>
    have q1 := SI.no h.out hs1 hg
    have q2 := SI.no h'.out hs1 hg
    go_enter Trym.func15, Trym.ntmps15
    go_wp2_with fail
    go_ret
    exact ⟨rfl, rfl⟩
  | some x =>
    have q1 := SI.yes h.out hs1 hg
    have q2 := SI.yes h'.out hs1 hg
    go_enter Trym.func15, Trym.ntmps15
    go_wp2_with fail
    go_ret
    exact ⟨rfl, rfl⟩
end Go.Proofs.Qxb6602314aMods
