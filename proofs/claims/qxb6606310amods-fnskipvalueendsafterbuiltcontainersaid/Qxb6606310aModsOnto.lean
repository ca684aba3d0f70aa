import Derived.Test.Qxb6606310aModsRows
import Derived.Test.Qxb6606310aModsPlain
import Derived.WalkKit
import Derived.WalkSpells
import Derived.WalkLawsBesides
import Derived.Maps.AppendAt
import Derived.Laws.AppendOwnNone
namespace Go.Proofs.Qxb6606310aMods.Onto
open Go.RowKit Plain

theorem info5 : (Trym.prog.info? 5).map (fun i => (i.zero, i.size, i.bytes)) = some (some (.int .u8 0), 1, 1) := by kernel_rfl

/-- The bytes as cells. -/
def cellsOf (bs : List Int) : List Value := bs.map (Value.int .u8)

theorem length_cellsOf (bs : List Int) : (cellsOf bs).length = bs.length := by simp [cellsOf]

/-- A byte slice of the call's own. -/
def Owns (base : Nat) (w : World) (v : Value) (bs : List Int) : Prop := w.ownsRow base 5 1 v bs.length (cellsOf bs)

/-- What stands behind one or several appends onto a byte slice of the call's own. -/
structure Grew (base : Nat) (w : World) (v : Value) (w' : World) (v' : Value) (bs : List Int) : Prop where
  owns : Owns base w' v' bs
  by_ : w.grownBy w' v.ownBlock
  at_ : v'.ownBlock = v.ownBlock ∨ ∃ g, v'.ownBlock = some g ∧ w.heap.size ≤ g

theorem Grew.trans {base : Nat} {w w1 w2 : World} {v v1 v2 : Value} {bs bs2 : List Int} (h : Grew base w v w1 v1 bs) (k : Grew base w1 v1 w2 v2 bs2) : Grew base w v w2 v2 bs2 := by
  refine ⟨k.owns, ⟨k.by_.os.trans h.by_.os, k.by_.tape.trans h.by_.tape, k.by_.output.trans h.by_.output, Nat.le_trans h.by_.size k.by_.size, fun i hi hne => ?_⟩, ?_⟩
  · have hne1 : some i ≠ v1.ownBlock := by
      rcases h.at_ with e | ⟨g, e, hg⟩
      · rw [e]; exact hne
      · rw [e]; intro e2; injection e2 with e2; omega
    exact (k.by_.block i (Nat.lt_of_lt_of_le hi h.by_.size) hne1).trans (h.by_.block i hi hne)
  · rcases k.at_ with e | ⟨g, e, hg⟩
    · rw [e]; exact h.at_
    · exact .inr ⟨g, e, Nat.le_trans h.by_.size hg⟩

theorem Grew.below {base : Nat} {w w' : World} {v v' : Value} {bs bs0 : List Int} (h : Grew base w v w' v' bs) (h0 : Owns base w v bs0) (hb : base ≤ w.heap.size) : Below base w w' :=
  (Below.refl base w).grown h.by_ hb (fun k hk => (h0.lt k hk).1)

/-- Another row of the call's own stays. -/
theorem Owns.kept {base : Nat} {w w' : World} {v : Value} {bs : List Int} {row : Option Nat} (h : Owns base w v bs) (hg : w.grownBy w' row) (hne : v.ownBlock = none ∨ v.ownBlock ≠ row) : Owns base w' v bs :=
  World.ownsRow.kept h hg hne

/-- The cells of a new block of bytes. -/
theorem new_cells (w : World) (l : List Int) (t : TypeId) : ∀ j u, (cellsOf l)[j]? = some u → (w.alloc (.cells (cellsOf l).toArray t)).cell? ((⟨w.heap.size, 0, none⟩ : Addr).add j) = some u := by
  intro j u hu
  have hadd : (⟨w.heap.size, 0, none⟩ : Addr).add j = ⟨w.heap.size, j, none⟩ := by unfold Addr.add; split <;> simp_all
  rw [hadd, World.cell?_alloc_at _ _ _ _ rfl]
  simpa using hu

/-- append onto a byte slice of the call's own, from whatever source. -/
theorem app_any (w0 w : World) {ops : Array Oper} {rest : List Oper} {o : Oper} {a : Act} {Q : Exit → Act → World → Prop} (hgd : o.guard = none) (s x : Operand)
    (ho : o.op = .call { callee := .builtin .append, args := #[s, x], argTypes := #[22, 22] })
    (base : Nat) (v : Value) (bs : List Int) (hs : a.eval s = v) (hown : Owns base w0 v bs) (hfrom : w0.grownBy w none)
    (sp : Option Addr) (m c : Nat) (news : List Int) (hx : a.eval x = .slice sp m c) (hl : news.length = m)
    (hsrc : (sp = none ∧ m = 0 ∧ c = 0) ∨ ∃ ad, sp = some ad ∧ ∀ j u, (cellsOf news)[j]? = some u → w.cell? (ad.add j) = some u)
    (hN : bs.length + m ≤ 1099511627776) (hbase : base ≤ w0.heap.size)
    (h : ∀ v' w', Grew base w0 v w' v' (bs ++ news) → wpList Trym.prog ops Q rest (a.put o.dst v') w') :
    wpList Trym.prog ops Q (o :: rest) a w := by
  obtain ⟨i0, hi0, hz0, hz1, hz2⟩ := info_parts info5
  have hown1 : Owns base w v bs := hown.kept hfrom (by cases hv : v.ownBlock <;> simp)
  rcases hsrc with ⟨rfl, rfl, rfl⟩ | ⟨ad, rfl, hsrc⟩
  · obtain rfl : news = [] := List.eq_nil_of_length_eq_zero hl
    refine wpList_append_own_none hgd s x 22 ho base 5 i0 1 Trym.underlying22 hi0 v _ _ hs hown1 hx (h v w ?_)
    refine ⟨by simpa using hown1, ⟨hfrom.os, hfrom.tape, hfrom.output, hfrom.size, fun k hk _ => hfrom.block k hk (by simp)⟩, .inl rfl⟩
  · refine wpList_append_own_at w hgd s x 22 ho base 5 i0 (.int .u8 0) 1 1 Trym.underlying22 hi0 hz0 hz1 hz2 rfl (by decide) v _ _ hs hown1 ad m c (cellsOf news) hx (by rw [length_cellsOf]; omega) hsrc (by intro u hu; simp [cellsOf] at hu; obtain ⟨y, _, rfl⟩ := hu; rfl) (by unfold maxLen; omega) (by omega) (Nat.le_trans hbase hfrom.size) ?_
    intro v' w' h1 h2 _ h4
    refine h v' w' ⟨?_, ⟨h2.os.trans hfrom.os, h2.tape.trans hfrom.tape, h2.output.trans hfrom.output, Nat.le_trans hfrom.size h2.size, fun k hk hne => (h2.block k (Nat.lt_of_lt_of_le hk hfrom.size) hne).trans (hfrom.block k hk (by simp))⟩, ?_⟩
    · have e1 : (bs ++ news).length = bs.length + m := by simp; omega
      have e2 : cellsOf (bs ++ news) = cellsOf bs ++ cellsOf news := by simp [cellsOf]
      unfold Owns
      rw [e1, e2]
      exact h1
    · rcases h4 with e | e
      · exact .inl e
      · exact .inr ⟨_, e, hfrom.size⟩

/-- append of bytes that are written out: they lie in a block of their own. -/
theorem app_lit (w : World) {ops : Array Oper} {rest : List Oper} {o : Oper} {a : Act} {Q : Exit → Act → World → Prop} (hgd : o.guard = none) (s x : Operand)
    (ho : o.op = .call { callee := .builtin .append, args := #[s, x], argTypes := #[22, 22] })
    (base : Nat) (v : Value) (bs : List Int) (hs : a.eval s = v) (hown : Owns base w v bs) (m : Nat) (news : List Int) (hx : a.eval x = .slice (some ⟨w.heap.size, 0, none⟩) m m) (hl : news.length = m)
    (hN : bs.length + m ≤ 1099511627776) (hbase : base ≤ w.heap.size)
    (h : ∀ v' w', Grew base w v w' v' (bs ++ news) → wpList Trym.prog ops Q rest (a.put o.dst v') w') :
    wpList Trym.prog ops Q (o :: rest) a (w.alloc (.cells (cellsOf news).toArray 5)) :=
  app_any w _ hgd s x ho base v bs hs hown (World.grownBy_alloc w _ none) _ m m news hx hl (.inr ⟨_, rfl, new_cells w news 5⟩) hN hbase h

theorem Grew.refl {base : Nat} {w : World} {v : Value} {bs : List Int} (h : Owns base w v bs) : Grew base w v w v bs := ⟨h, World.grownBy.refl _ _, .inl rfl⟩

set_option maxHeartbeats 400000 in
theorem closer (base : Nat) (v : Value) (bs : List Int) (c : Int) (w : World) (hown : Owns base w v bs) (hb : base ≤ w.heap.size) (hN : bs.length ≤ 1073741824) :
    Calls Trym.prog 19 #[v, .int .u8 c] w fun e w' => ∃ v', e = .returned v' ∧ Grew base w v w' v' (bs ++ [if c = 123 then 125 else 93]) := by
  by_cases hc : c = 123
  · subst hc
    go_enter Trym.func19, Trym.ntmps19
    go_wp2_with (at_builtin; refine app_lit _ rfl _ _ rfl base v bs rfl hown 1 [125] rfl rfl (by omega) hb ?_; intro v1 w1 hg)
    go_ret
    exact ⟨_, rfl, hg⟩
  · have hc' : (c == 123) = false := by simp [hc]
    rw [if_neg hc]
    clear hc
    go_enter Trym.func19, Trym.ntmps19
    go_wp2_with (at_builtin; refine app_lit _ rfl _ _ rfl base v bs rfl hown 1 [93] rfl rfl (by omega) hb ?_; intro v1 w1 hg)
    go_ret
    exact ⟨_, rfl, hg⟩

/-- Bytes of a number or a literal: few, and none at which a scalar ends. -/
def Calm (ds : List Int) : Prop := ds.length ≤ 21 ∧ ∀ c ∈ ds, stopB c = false
def calmB (ds : List Int) : Bool := decide (ds.length ≤ 21) && ds.all (fun c => !stopB c)
theorem calm_of {ds : List Int} (h : calmB ds = true) : Hid (Calm ds) := by
  simp only [calmB, Bool.and_eq_true, decide_eq_true_eq, List.all_eq_true, Bool.not_eq_true'] at h
  exact h

set_option maxHeartbeats 400000 in
theorem tail_any (base : Nat) (v : Value) (bs : List Int) (t : Int) (w : World) (hown : Owns base w v bs) (hb : base ≤ w.heap.size) (hN : bs.length ≤ 1073741824) :
    Calls Trym.prog 13 #[v, .int .u8 t] w fun e w' => ∃ v' ds, e = .returned v' ∧ Grew base w v w' v' (bs ++ ds) ∧ Hid (Calm ds) := by
  go_enter Trym.func13, Trym.ntmps13
  go_wp2_with (first
    | (at_builtin; refine app_lit _ rfl (.tmp 9) (.tmp 10) rfl base v bs rfl hown 2 [46, 53] rfl rfl (by omega) hb ?_; intro v1 w1 hg)
    | (at_builtin; refine app_lit _ rfl (.tmp 14) (.tmp 15) rfl base v bs rfl hown 3 [101, 43, 55] rfl rfl (by omega) hb ?_; intro v1 w1 hg)
    | (at_builtin; refine app_lit _ rfl (.tmp 19) (.tmp 20) rfl base v bs rfl hown 3 [69, 45, 51] rfl rfl (by omega) hb ?_; intro v1 w1 hg)
    | (at_builtin; refine app_lit _ rfl (.tmp 24) (.tmp 25) rfl base v bs rfl hown 6 [46, 50, 53, 101, 43, 55] rfl rfl (by omega) hb ?_; intro v1 w1 hg))
  all_goals go_ret
  · exact ⟨_, _, rfl, by assumption, calm_of (by decide)⟩
  · exact ⟨_, _, rfl, by assumption, calm_of (by decide)⟩
  · exact ⟨_, _, rfl, by assumption, calm_of (by decide)⟩
  · exact ⟨_, _, rfl, by assumption, calm_of (by decide)⟩
  · exact ⟨_, [], rfl, by simpa using Grew.refl hown, calm_of (by decide)⟩

set_option maxHeartbeats 400000 in
theorem lit_any (base : Nat) (v : Value) (bs : List Int) (k : Int) (w : World) (hown : Owns base w v bs) (hb : base ≤ w.heap.size) (hN : bs.length ≤ 1073741824) :
    Calls Trym.prog 14 #[v, .int .u8 k] w fun e w' => ∃ v' ds, e = .returned v' ∧ Grew base w v w' v' (bs ++ ds) ∧ ds ≠ [] ∧ Hid (Calm ds) := by
  go_enter Trym.func14, Trym.ntmps14
  go_wp2_with (first
    | (at_builtin; refine app_lit _ rfl (.tmp 12) (.tmp 13) rfl base v bs rfl hown 4 [116, 114, 117, 101] rfl rfl (by omega) hb ?_; intro v1 w1 hg)
    | (at_builtin; refine app_lit _ rfl (.tmp 17) (.tmp 18) rfl base v bs rfl hown 5 [102, 97, 108, 115, 101] rfl rfl (by omega) hb ?_; intro v1 w1 hg)
    | (at_builtin; refine app_lit _ rfl (.tmp 7) (.tmp 8) rfl base v bs rfl hown 4 [110, 117, 108, 108] rfl rfl (by omega) hb ?_; intro v1 w1 hg))
  all_goals go_ret
  all_goals exact ⟨_, _, rfl, by assumption, by simp, calm_of (by decide)⟩

/-! ### b1AppendInt -/
theorem pow_step {q k : Nat} (h : Hid (q < 10 ^ (k + 1))) : Hid (q / 10 < 10 ^ k) := by
  have h' := h.out
  rw [Nat.pow_succ] at h'
  show q / 10 < 10 ^ k
  omega
theorem pow_pos {q k : Nat} (h : Hid (q < 10 ^ k)) (h1 : k = 20 ∨ 1 ≤ q) : 1 ≤ k := by
  have h' := h.out
  rcases k with _ | k
  · simp at h'; omega
  · omega
theorem pow_start {q : Nat} (h : (q : Int) ≤ 9223372036854775808) : Hid (q < 10 ^ 20) := by
  show q < 10 ^ 20
  have : (10 : Nat) ^ 20 = 100000000000000000000 := by decide
  omega
def Digs (ds : List Int) : Prop := ∀ c ∈ ds, 48 ≤ c ∧ c ≤ 57
theorem digs_cons {ds : List Int} {q : Nat} (h : Hid (Digs ds)) : Hid (Digs ((48 + (q : Int) % 10) :: ds)) := by
  intro c hc
  rcases List.mem_cons.1 hc with rfl | hc
  · omega
  · exact h.out c hc
theorem stop_dig {c : Int} (h1 : 48 ≤ c) (h2 : c ≤ 57) : stopB c = false := by
  simp [stopB]; omega
theorem digs_calm {ds : List Int} (h : Hid (Digs ds)) (hl : ds.length ≤ 20) : Hid (Calm ds) :=
  ⟨by omega, fun c hc => stop_dig (h.out c hc).1 (h.out c hc).2⟩
theorem digs_calm' {ds : List Int} (h : Hid (Digs ds)) (hl : ds.length ≤ 20) : Hid (Calm (45 :: ds)) := by
  refine ⟨by simp; omega, fun c hc => ?_⟩
  rcases List.mem_cons.1 hc with rfl | hc
  · decide
  · exact stop_dig (h.out c hc).1 (h.out c hc).2

/-- The room for the digits: the array's block. -/
def Buf (B : Nat) (w : World) (k : Nat) (ds : List Int) : Prop := ∃ xs : List Value, w.ownsRow B 36 1 (.slice (some ⟨B, 0, none⟩) 20 20) 20 xs ∧ xs.drop k = cellsOf ds

theorem Buf.store {B : Nat} {w : World} {k : Nat} {ds : List Int} {c : Int} (h : Buf B w (k + 1) ds) (hk : k < 20) : Buf B (w.setCell ⟨B, k, none⟩ (.int .u8 c)) k (c :: ds) := by
  obtain ⟨xs, h1, h2⟩ := h
  have hl : xs.length = 20 := by simpa using h1.1
  refine ⟨xs.set k (.int .u8 c), (h1.stored k _).1, ?_⟩
  rw [List.drop_eq_getElem_cons (by simp; omega)]
  rw [List.drop_set_of_lt (by omega), h2]
  simp [cellsOf]

theorem Buf.cells {B : Nat} {w : World} {k : Nat} {ds : List Int} (h : Buf B w k ds) (hk : k + ds.length = 20) : ∀ j u, (cellsOf ds)[j]? = some u → w.cell? ((⟨B, k, none⟩ : Addr).add j) = some u := by
  intro j u hu
  obtain ⟨xs, h1, h2⟩ := h
  have hj : j < (cellsOf ds).length := (List.getElem?_eq_some_iff.1 hu).1
  rw [length_cellsOf] at hj
  have hadd : (⟨B, k, none⟩ : Addr).add j = ⟨B, k + j, none⟩ := by unfold Addr.add; split <;> simp_all
  rw [hadd, h1.cellAt (k + j) (by omega)]
  rw [← h2, List.getElem?_drop] at hu
  exact hu

theorem buf_start (w : World) (t : TypeId) (ht : t = 36) : Buf w.heap.size (w.alloc (.cells (List.replicate 20 (Value.int .u8 0)).toArray t)) 20 [] := by
  subst ht
  exact ⟨_, World.ownsRow_lit w _ 20 (Nat.le_refl _) (by unfold maxLen; omega) (by simp), by simp [cellsOf]⟩

theorem arr36 : Trym.prog.arrayLen 36 = 20 := by kernel_rfl
theorem elem36 : (sizeOf (Trym.prog.elem 36)).run Trym.prog = fun w => .ok 1 w := by kernel_rfl
theorem und36 : Trym.prog.underlying 36 = some (.array (Trym.prog.arrayLen 36) (Trym.prog.elem 36)) := by kernel_rfl
theorem buf_cut (B j : Nat) (hj : j < 20) (w : World) : (Instr.sliceAt 36 (.pointer (some ⟨B, 0, none⟩)) (some (.int .i64 j)) none none).run Trym.prog w = .ok (.slice (some ⟨B, j, none⟩) (20 - j) (20 - j)) w := by
  rw [run_sliceAt_array_l w 36 ⟨B, 0, none⟩ und36 .i64 j (by omega) (by rw [arr36]; omega), elem36]
  simp [slicedAt, arr36, Result.andThen, show ¬ 20 = j by omega, Addr.add]
  omega

set_option maxHeartbeats 1000000 in
theorem int_pos (base : Nat) (v : Value) (bs : List Int) (n : Int) (w : World) (hown : Owns base w v bs) (hb : base ≤ w.heap.size) (hN : bs.length ≤ 1073741824) (hn : 0 ≤ n) (hn2 : n ≤ 9223372036854775807) :
    Calls Trym.prog 12 #[v, .int .i64 n] w fun e w' => ∃ v' ds, e = .returned v' ∧ Grew base w v w' v' (bs ++ ds) ∧ ds ≠ [] ∧ Hid (Calm ds) := by
  obtain ⟨q0, rfl⟩ := Int.eq_ofNat_of_zero_le hn
  have hq1 : (q0 : Int) ≤ 9223372036854775808 := by omega
  go_enter Trym.func12, Trym.ntmps12
  go_wp2_with fail
  go_loopw [5, 7] (fun u kv wr => ∃ (q k : Nat) (ds : List Int), u = .int .u64 q ∧ (q : Int) ≤ 9223372036854775808 ∧ kv = .int .i64 k ∧ k + ds.length = 20 ∧ Hid (q < 10 ^ k) ∧ (k = 20 ∨ 1 ≤ q) ∧ w.heap.size < wr.heap.size ∧ Below w.heap.size w wr ∧ Buf w.heap.size wr k ds ∧ Hid (Digs ds)) (fun _ kv _ => (intOf kv).toNat)
  case atStart => exact ⟨q0, 20, [], rfl, hq1, rfl, rfl, pow_start hq1, .inl rfl, by simp, (Below.refl _ _).alloc (Nat.le_refl _) _, buf_start w 36 rfl, by intro c h; simp at h⟩
  case round =>
    obtain ⟨q, k, ds, rfl, hq, rfl, hkl, hpow, hk1, hsz, hbel, hbuf, hdig⟩ := hrel
    have hk := pow_pos hpow hk1
    obtain ⟨j, rfl⟩ : ∃ j, k = j + 1 := ⟨k - 1, by omega⟩
    have hfr : wr.frozen? ⟨w.heap.size, j, none⟩ = false := by obtain ⟨xs, h1, h2⟩ := hbuf; exact h1.frozenAt j
    obtain ⟨v3, hv3⟩ : ∃ v3, wr.cell? ⟨w.heap.size, j, none⟩ = some v3 := by
      obtain ⟨xs, h1, h2⟩ := hbuf
      rw [h1.cellAt j (by omega)]
      have hl : xs.length = 20 := by simpa using h1.1
      exact ⟨_, List.getElem?_eq_getElem (by omega)⟩
    clear hk1
    have hcut := fun wx => buf_cut w.heap.size j (by omega) wx
    have hbuf1 := hbuf.store (c := 48 + (q : Int) % 10) (by omega)
    have hbel1 : Below w.heap.size w (wr.setCell ⟨w.heap.size, j, none⟩ (.int .u8 (48 + (q : Int) % 10))) := hbel.setCell (Nat.le_refl _) _
    have hfrom : w.grownBy (wr.setCell ⟨w.heap.size, j, none⟩ (.int .u8 (48 + (q : Int) % 10))) none := ⟨hbel1.os, hbel1.tape, hbel1.output, hbel1.size, fun k hk _ => hbel1.block k hk⟩
    have hcl := hbuf1.cells (by simp; omega)
    have hd1 := digs_cons (q := q) hdig
    have Hd2 : Hid (((48 + (q : Int) % 10) :: ds).length = 20 - j) := by show _ = _; simp; omega
    have HB1 : Hid (Buf w.heap.size (wr.setCell ⟨w.heap.size, j, none⟩ (.int .u8 (48 + (q : Int) % 10))) j ((48 + (q : Int) % 10) :: ds)) := hbuf1
    have Hcl : Hid (∀ t u, (cellsOf ((48 + (q : Int) % 10) :: ds))[t]? = some u → (wr.setCell ⟨w.heap.size, j, none⟩ (.int .u8 (48 + (q : Int) % 10))).cell? ((⟨w.heap.size, j, none⟩ : Addr).add t) = some u) := hcl
    clear hbuf1 hcl
    go_wp2_with (at_builtin; refine app_any w _ rfl (.tmp 32) (.tmp 34) rfl base v bs rfl hown hfrom _ (20 - j) (20 - j) ((48 + (q : Int) % 10) :: ds) rfl Hd2.out (.inr ⟨_, rfl, Hcl.out⟩) (by first | omega | (simp; omega)) hb ?_; intro v9 w9 hg9)
    · go_ret
      exact ⟨_, _, rfl, hg9, by simp, digs_calm hd1 (by rw [Hd2.out]; omega)⟩
    · have hz : ((q : Int) / 10 == 0) = false := by assumption
      have hz' : (q : Int) / 10 ≠ 0 := by simpa using hz
      go_roundw
      case rel => exact ⟨q / 10, j, _, by go_num, by omega, rfl, by rw [Hd2.out]; omega, pow_step hpow, .inr (by omega), by simpa using hsz, hbel1, HB1.out, hd1⟩
      case measure => simp [intOf]

set_option maxHeartbeats 1000000 in
theorem int_neg (base : Nat) (v : Value) (bs : List Int) (n : Int) (w : World) (hown : Owns base w v bs) (hb : base ≤ w.heap.size) (hN : bs.length ≤ 1073741824) (hn : n < 0) (hn2 : -9223372036854775808 ≤ n) :
    Calls Trym.prog 12 #[v, .int .i64 n] w fun e w' => ∃ v' ds, e = .returned v' ∧ Grew base w v w' v' (bs ++ ds) ∧ ds ≠ [] ∧ Hid (Calm ds) := by
  have hlow : -9223372036854775808 ≤ n + 1 := by omega
  go_enter Trym.func12, Trym.ntmps12
  go_wp2_with (at_builtin; refine app_lit _ rfl (.tmp 10) (.tmp 11) rfl base v bs rfl hown 1 [45] rfl rfl (by omega) hb ?_; intro v1 w1 hg; have hb1 : base ≤ w1.heap.size := Nat.le_trans hb hg.by_.size)
  obtain ⟨q0, hq0⟩ := Int.eq_ofNat_of_zero_le (show 0 ≤ -(n + 1) + 1 by omega)
  have hq1 : (q0 : Int) ≤ 9223372036854775808 := by omega
  have Hq0 : Hid (-(n + 1) + 1 = (q0 : Int)) := hq0
  clear hq0
  go_loopw [5, 7] (fun u kv wr => ∃ (q k : Nat) (ds : List Int), u = .int .u64 q ∧ (q : Int) ≤ 9223372036854775808 ∧ kv = .int .i64 k ∧ k + ds.length = 20 ∧ Hid (q < 10 ^ k) ∧ (k = 20 ∨ 1 ≤ q) ∧ w1.heap.size < wr.heap.size ∧ Below w1.heap.size w1 wr ∧ Buf w1.heap.size wr k ds ∧ Hid (Digs ds)) (fun _ kv _ => (intOf kv).toNat)
  case atStart => exact ⟨q0, 20, [], by rw [← Hq0.out], hq1, rfl, rfl, pow_start hq1, .inl rfl, by simp, (Below.refl _ _).alloc (Nat.le_refl _) _, buf_start w1 36 rfl, by intro c h; simp at h⟩
  case round =>
    obtain ⟨q, k, ds, rfl, hq, rfl, hkl, hpow, hk1, hsz, hbel, hbuf, hdig⟩ := hrel
    have hk := pow_pos hpow hk1
    obtain ⟨j, rfl⟩ : ∃ j, k = j + 1 := ⟨k - 1, by omega⟩
    have hfr : wr.frozen? ⟨w1.heap.size, j, none⟩ = false := by obtain ⟨xs, h1, h2⟩ := hbuf; exact h1.frozenAt j
    obtain ⟨v3, hv3⟩ : ∃ v3, wr.cell? ⟨w1.heap.size, j, none⟩ = some v3 := by
      obtain ⟨xs, h1, h2⟩ := hbuf
      rw [h1.cellAt j (by omega)]
      have hl : xs.length = 20 := by simpa using h1.1
      exact ⟨_, List.getElem?_eq_getElem (by omega)⟩
    clear hk1
    have hcut := fun wx => buf_cut w1.heap.size j (by omega) wx
    have hbuf1 := hbuf.store (c := 48 + (q : Int) % 10) (by omega)
    have hbel1 : Below w1.heap.size w1 (wr.setCell ⟨w1.heap.size, j, none⟩ (.int .u8 (48 + (q : Int) % 10))) := hbel.setCell (Nat.le_refl _) _
    have hfrom : w1.grownBy (wr.setCell ⟨w1.heap.size, j, none⟩ (.int .u8 (48 + (q : Int) % 10))) none := ⟨hbel1.os, hbel1.tape, hbel1.output, hbel1.size, fun k hk _ => hbel1.block k hk⟩
    have hcl := hbuf1.cells (by simp; omega)
    have hd1 := digs_cons (q := q) hdig
    have Hd2 : Hid (((48 + (q : Int) % 10) :: ds).length = 20 - j) := by show _ = _; simp; omega
    have HB1 : Hid (Buf w1.heap.size (wr.setCell ⟨w1.heap.size, j, none⟩ (.int .u8 (48 + (q : Int) % 10))) j ((48 + (q : Int) % 10) :: ds)) := hbuf1
    have Hcl : Hid (∀ t u, (cellsOf ((48 + (q : Int) % 10) :: ds))[t]? = some u → (wr.setCell ⟨w1.heap.size, j, none⟩ (.int .u8 (48 + (q : Int) % 10))).cell? ((⟨w1.heap.size, j, none⟩ : Addr).add t) = some u) := hcl
    clear hbuf1 hcl
    go_wp2_with (at_builtin; refine app_any w1 _ rfl (.tmp 32) (.tmp 34) rfl base v1 (bs ++ [45]) rfl hg.owns hfrom _ (20 - j) (20 - j) ((48 + (q : Int) % 10) :: ds) rfl Hd2.out (.inr ⟨_, rfl, Hcl.out⟩) (by first | omega | (simp; omega)) hb1 ?_; intro v9 w9 hg9)
    · go_ret
      refine ⟨_, 45 :: ((48 + (q : Int) % 10) :: ds), rfl, hg.trans (by simpa using hg9), by simp, digs_calm' hd1 (by rw [Hd2.out]; omega)⟩
    · have hz : ((q : Int) / 10 == 0) = false := by assumption
      have hz' : (q : Int) / 10 ≠ 0 := by simpa using hz
      go_roundw
      case rel => exact ⟨q / 10, j, _, by go_num, by omega, rfl, by rw [Hd2.out]; omega, pow_step hpow, .inr (by omega), by simpa using hsz, hbel1, HB1.out, hd1⟩
      case measure => simp [intOf]

theorem int_any (base : Nat) (v : Value) (bs : List Int) (n : Int) (w : World) (hown : Owns base w v bs) (hb : base ≤ w.heap.size) (hN : bs.length ≤ 1073741824) (hn1 : -9223372036854775808 ≤ n) (hn2 : n ≤ 9223372036854775807) :
    Calls Trym.prog 12 #[v, .int .i64 n] w fun e w' => ∃ v' ds, e = .returned v' ∧ Grew base w v w' v' (bs ++ ds) ∧ ds ≠ [] ∧ Hid (Calm ds) := by
  by_cases h : 0 ≤ n
  · exact int_pos base v bs n w hown hb hN h hn2
  · exact int_neg base v bs n w hown hb hN (by omega) hn1

/-! ### What an owned slice gives -/
theorem Owns.form {base : Nat} {w : World} {v : Value} {bs : List Int} (h : Owns base w v bs) : ∃ a cap, v = .slice a bs.length cap := by
  obtain ⟨_, ⟨rfl, h0⟩ | ⟨g, cap, cur, rfl, _⟩⟩ := h
  · exact ⟨none, 0, by rw [h0]⟩
  · exact ⟨_, cap, rfl⟩

theorem Owns.open {base : Nat} {w : World} {v : Value} {bs : List Int} (h : Owns base w v bs) (hne : bs ≠ []) :
    ∃ g cap, v = .slice (some ⟨g, 0, none⟩) bs.length cap ∧ ∀ j, j < bs.length → w.cell? ⟨g, 0 + j, none⟩ = some (.int .u8 (bs.getD j 0)) := by
  have h0 := h
  obtain ⟨_, ⟨rfl, h1⟩ | ⟨g, cap, cur, rfl, _⟩⟩ := h
  · exact absurd (List.eq_nil_of_length_eq_zero h1) hne
  · refine ⟨g, cap, rfl, fun j hj => ?_⟩
    rw [Nat.zero_add, h0.cellAt j (by omega)]
    simp [cellsOf, hj]

/-- As the source of another append. -/
theorem Owns.src {base : Nat} {w : World} {a : Option Addr} {n cap : Nat} {bs : List Int} (h : Owns base w (.slice a n cap) bs) :
    (a = none ∧ n = 0 ∧ cap = 0) ∨ ∃ ad, a = some ad ∧ ∀ j u, (cellsOf bs)[j]? = some u → w.cell? (ad.add j) = some u := by
  have h0 := h
  obtain ⟨_, ⟨h1, _⟩ | ⟨g, cap, cur, h1, _⟩⟩ := h
  · simp only [Value.slice.injEq] at h1; exact .inl h1
  · simp only [Value.slice.injEq] at h1
    obtain ⟨rfl, rfl, rfl⟩ := h1
    exact .inr ⟨_, rfl, World.ownsRow.cells h0 rfl⟩

theorem Owns.block_lt {base : Nat} {w : World} {v : Value} {bs : List Int} (h : Owns base w v bs) : v.ownBlock = none ∨ ∃ g, v.ownBlock = some g ∧ base ≤ g ∧ g < w.heap.size := by
  cases hv : v.ownBlock with
  | none => exact .inl rfl
  | some g => exact .inr ⟨g, rfl, h.lt g hv⟩

/-! ### b1FollowerByte -/
set_option maxHeartbeats 400000 in
theorem foll_none (k : Int) (w : World) (h0 : 0 ≤ k) (h1 : k ≤ 255) (h7 : k % 8 = 7) :
    Calls Trym.prog 15 #[.int .u8 k] w fun e w' => e = .returned (.tuple #[.int .u8 0, .bool false]) ∧ w' = w := by
  go_enter Trym.func15, Trym.ntmps15
  go_wp2
  all_goals (go_ret2; exact ⟨rfl, rfl⟩)

set_option maxHeartbeats 400000 in
theorem foll_some (k : Int) (w : World) (h0 : 0 ≤ k) (h1 : k ≤ 255) (h7 : k % 8 ≠ 7) :
    Calls Trym.prog 15 #[.int .u8 k] w fun e w' => ∃ c, e = .returned (.tuple #[.int .u8 c, .bool true]) ∧ w' = w ∧ Hid (stopB c = true) := by
  go_enter Trym.func15, Trym.ntmps15
  go_wp2
  all_goals first
    | (go_ret2; exact ⟨_, rfl, rfl, rfl⟩)
    | (exfalso; simp at *; omega)
end Go.Proofs.Qxb6606310aMods.Onto
