import Derived.Test.YbulkawnaABuiltLay
namespace Go.Proofs.Ybulkawna
open Go.RowKit
set_option linter.unusedVariables false

def idx (j n : Nat) : Value := .int .i64 (if n < j then (n : Int) else 0)
def dbl (j n : Nat) : Value := .int .i64 (if n < j then 2 * (n : Int) else 0)
theorem idx_upd (j n : Nat) : upd (idx j) j (.int .i64 j) n = idx (j + 1) n := by
  unfold upd idx
  split
  · rename_i h; subst h; rw [if_pos (by omega)]
  · rename_i h
    by_cases c : n < j
    · rw [if_pos c, if_pos (by omega)]
    · rw [if_neg c, if_neg (by omega)]
theorem dbl_upd (j n : Nat) : upd (dbl j) j (.int .i64 (2 * (j : Int))) n = dbl (j + 1) n := by
  unfold upd dbl
  split
  · rename_i h; subst h; rw [if_pos (by omega)]
  · rename_i h
    by_cases c : n < j
    · rw [if_pos c, if_pos (by omega)]
    · rw [if_neg c, if_neg (by omega)]

/-- The blocks of x. -/
structure XB where
  bx : Nat
  b0 : Nat
  b1 : Nat
  b2 : Nat
  b3 : Nat
  b4 : Nat
  kk : Nat

structure XOk (q : XB) (S : Nat) : Prop where
  ge : S ≤ q.b0 ∧ S ≤ q.b1 ∧ S ≤ q.b2 ∧ S ≤ q.b4 ∧ S ≤ q.bx
  ne : q.b0 ≠ q.b1 ∧ q.b0 ≠ q.b2 ∧ q.b0 ≠ q.b4 ∧ q.b1 ≠ q.b2 ∧ q.b1 ≠ q.b4 ∧ q.b2 ≠ q.b4 ∧ q.b0 ≠ q.bx ∧ q.b1 ≠ q.bx ∧ q.b2 ≠ q.bx ∧ q.b4 ≠ q.bx

structure XS (q : XB) (w : World) (f0 f1 f2 f4 : Nat → Value) (wr : World) : Prop where
  hx : wr.heap[q.bx]? = some (.cells #[.slice (some ⟨q.b0, 0, none⟩) q.kk q.kk, .slice (some ⟨q.b1, 0, none⟩) q.kk q.kk, .slice (some ⟨q.b2, 0, none⟩) q.kk q.kk, .slice (some ⟨q.b3, 0, none⟩) q.kk q.kk, .slice (some ⟨q.b4, 0, none⟩) (2 * q.kk) (2 * q.kk)] 44 (0, 0))
  r0 : Row wr q.b0 3 q.kk f0
  r1 : Row wr q.b1 3 q.kk f1
  r2 : Row wr q.b2 3 q.kk f2
  r4 : Row wr q.b4 3 (2 * q.kk) f4
  bel : Below w.heap.size w wr

theorem XS.x0 {q : XB} {w : World} {f0 f1 f2 f4 : Nat → Value} {wr : World} (h : XS q w f0 f1 f2 f4 wr) : wr.cell? ⟨q.bx, 0, none⟩ = some (.slice (some ⟨q.b0, 0, none⟩) q.kk q.kk) := by
  have := h.hx; simp [World.cell?, this]
theorem XS.x1 {q : XB} {w : World} {f0 f1 f2 f4 : Nat → Value} {wr : World} (h : XS q w f0 f1 f2 f4 wr) : wr.cell? ⟨q.bx, 1, none⟩ = some (.slice (some ⟨q.b1, 0, none⟩) q.kk q.kk) := by
  have := h.hx; simp [World.cell?, this]
theorem XS.x2 {q : XB} {w : World} {f0 f1 f2 f4 : Nat → Value} {wr : World} (h : XS q w f0 f1 f2 f4 wr) : wr.cell? ⟨q.bx, 2, none⟩ = some (.slice (some ⟨q.b2, 0, none⟩) q.kk q.kk) := by
  have := h.hx; simp [World.cell?, this]
theorem XS.x4 {q : XB} {w : World} {f0 f1 f2 f4 : Nat → Value} {wr : World} (h : XS q w f0 f1 f2 f4 wr) : wr.cell? ⟨q.bx, 4, none⟩ = some (.slice (some ⟨q.b4, 0, none⟩) (2 * q.kk) (2 * q.kk)) := by
  have := h.hx; simp [World.cell?, this]

theorem XS.set0 {q : XB} {w : World} {f0 f1 f2 f4 : Nat → Value} {wr : World} (h : XS q w f0 f1 f2 f4 wr) (ok : XOk q w.heap.size) (i : Nat) (v : Value) : XS q w (upd f0 i v) f1 f2 f4 (wr.setCell ⟨q.b0, i, none⟩ v) := by
  obtain ⟨g0, g1, g2, g4, gx⟩ := ok.ge
  obtain ⟨n1, n2, n3, n4, n5, n6, n7, n8, n9, n10⟩ := ok.ne
  exact ⟨by rw [Below.heap_setCell _ _ _ _ (by simp; omega)]; exact h.hx, h.r0.set i v, h.r1.other _ _ (by simp; omega), h.r2.other _ _ (by simp; omega), h.r4.other _ _ (by simp; omega), h.bel.setCell (by simp; omega) _⟩
theorem XS.set1 {q : XB} {w : World} {f0 f1 f2 f4 : Nat → Value} {wr : World} (h : XS q w f0 f1 f2 f4 wr) (ok : XOk q w.heap.size) (i : Nat) (v : Value) : XS q w f0 (upd f1 i v) f2 f4 (wr.setCell ⟨q.b1, i, none⟩ v) := by
  obtain ⟨g0, g1, g2, g4, gx⟩ := ok.ge
  obtain ⟨n1, n2, n3, n4, n5, n6, n7, n8, n9, n10⟩ := ok.ne
  exact ⟨by rw [Below.heap_setCell _ _ _ _ (by simp; omega)]; exact h.hx, h.r0.other _ _ (by simp; omega), h.r1.set i v, h.r2.other _ _ (by simp; omega), h.r4.other _ _ (by simp; omega), h.bel.setCell (by simp; omega) _⟩
theorem XS.set2 {q : XB} {w : World} {f0 f1 f2 f4 : Nat → Value} {wr : World} (h : XS q w f0 f1 f2 f4 wr) (ok : XOk q w.heap.size) (i : Nat) (v : Value) : XS q w f0 f1 (upd f2 i v) f4 (wr.setCell ⟨q.b2, i, none⟩ v) := by
  obtain ⟨g0, g1, g2, g4, gx⟩ := ok.ge
  obtain ⟨n1, n2, n3, n4, n5, n6, n7, n8, n9, n10⟩ := ok.ne
  exact ⟨by rw [Below.heap_setCell _ _ _ _ (by simp; omega)]; exact h.hx, h.r0.other _ _ (by simp; omega), h.r1.other _ _ (by simp; omega), h.r2.set i v, h.r4.other _ _ (by simp; omega), h.bel.setCell (by simp; omega) _⟩
theorem XS.set4 {q : XB} {w : World} {f0 f1 f2 f4 : Nat → Value} {wr : World} (h : XS q w f0 f1 f2 f4 wr) (ok : XOk q w.heap.size) (i : Nat) (v : Value) : XS q w f0 f1 f2 (upd f4 i v) (wr.setCell ⟨q.b4, i, none⟩ v) := by
  obtain ⟨g0, g1, g2, g4, gx⟩ := ok.ge
  obtain ⟨n1, n2, n3, n4, n5, n6, n7, n8, n9, n10⟩ := ok.ne
  exact ⟨by rw [Below.heap_setCell _ _ _ _ (by simp; omega)]; exact h.hx, h.r0.other _ _ (by simp; omega), h.r1.other _ _ (by simp; omega), h.r2.other _ _ (by simp; omega), h.r4.set i v, h.bel.setCell (by simp; omega) _⟩
theorem XS.congr {q : XB} {w : World} {f0 f1 f2 f4 g0 g1 g2 g4 : Nat → Value} {wr : World} (h : XS q w f0 f1 f2 f4 wr) (e0 : ∀ j, j < q.kk → f0 j = g0 j) (e1 : ∀ j, j < q.kk → f1 j = g1 j) (e2 : ∀ j, j < q.kk → f2 j = g2 j) (e4 : ∀ j, j < 2 * q.kk → f4 j = g4 j) : XS q w g0 g1 g2 g4 wr :=
  ⟨h.hx, h.r0.congr e0, h.r1.congr e1, h.r2.congr e2, h.r4.congr e4, h.bel⟩
/-- What keeps every block below N keeps x. -/
theorem XS.keep {q : XB} {w : World} {f0 f1 f2 f4 : Nat → Value} {wr w' : World} (h : XS q w f0 f1 f2 f4 wr) (N : Nat) (k : Below N wr w') (hN : wr.heap.size ≤ N) (hw : w.heap.size ≤ N) : XS q w f0 f1 f2 f4 w' := by
  have l0 := h.r0.lt; have l1 := h.r1.lt; have l2 := h.r2.lt; have l4 := h.r4.lt; have lx := lt_of_block h.hx
  exact ⟨(k.block _ (by omega)).trans h.hx, h.r0.same (k.block _ (by omega)), h.r1.same (k.block _ (by omega)), h.r2.same (k.block _ (by omega)), h.r4.same (k.block _ (by omega)), h.bel.trans (k.mono hw)⟩

theorem made_row {w : World} {b : Nat} {z : Value} {n : Nat} {t : TypeId} (h : w.heap[b]? = some (.cells (madeCells #[z] n) t (0, 0))) : Row w b t n (fun _ => z) :=
  ⟨_, h, size_madeCells _ _, fun j hj => by simp [madeCells, hj, Nat.mod_one]⟩

theorem xs_of_laid {w : World} {kk : Nat} {s10 : Value} {wx : World} (h : Laid6 w kk s10 wx) : ∃ q : XB, q.kk = kk ∧ s10 = .pointer (some ⟨q.bx, 0, none⟩) ∧ XOk q w.heap.size ∧ XS q w (idx 0) (idx 0) (dbl 0) (idx 0) wx := by
  obtain ⟨bx, b0, b1, b2, b3, b4, h1, h2, h3, h4, h5, h6, h7, h8, h9⟩ := h
  refine ⟨⟨bx, b0, b1, b2, b3, b4, kk⟩, rfl, h1, ⟨h2, h3⟩, ⟨h4, ?_, ?_, ?_, ?_, h9⟩⟩
  · exact (made_row h5).congr (fun j _ => by simp [idx])
  · exact (made_row h6).congr (fun j _ => by simp [idx])
  · exact (made_row h7).congr (fun j _ => by simp [dbl])
  · exact (made_row h8).congr (fun j _ => by simp [idx])

theorem k_info52 : (Yba.prog.info? 52).map (fun i => (i.zero, i.size, i.bytes)) = some (some (.agg #[.int .i64 0, .int .i64 0, .slice none 0 0, .slice none 0 0]), 4, 64) := by kernel_rfl

/-- make([]membership, 0, n). -/
theorem make_ms (n : Nat) (hn : n ≤ 1024) : ∃ cs : Array Value, cs.size = n * 4 ∧ ∀ w : World, (Instr.makeSlice 27 (.int .i64 0) (.int .i64 n)).run Yba.prog w = .ok (.slice (some ⟨w.heap.size, 0, none⟩) 0 n) (w.alloc (.cells cs 52)) := by
  obtain ⟨i, hi, hz0, hz1, hz2⟩ := info_parts k_info52
  refine ⟨madeCells (Value.agg #[.int .i64 0, .int .i64 0, .slice none 0 0, .slice none 0 0]).cells (n * 4), size_madeCells _ _, fun w => ?_⟩
  have := run_make (P := Yba.prog) w 27 52 i _ Yba.underlying27 hi hz0 .i64 .i64 0 n (by omega) (by omega) (by rw [hz2]; omega) (by omega)
  rw [hz1] at this
  simpa using this

/-- The cells of j memberships. -/
def msCells (rl : Nat → Nat) : Nat → List Value
  | 0 => []
  | j + 1 => msCells rl j ++ [.int .i64 (rl j), .int .i64 0, .slice none 0 0, .slice none 0 0]
theorem msCells_length (rl : Nat → Nat) (j : Nat) : (msCells rl j).length = j * 4 := by
  induction j with
  | zero => rfl
  | succ j ih => simp [msCells, ih]; omega
theorem msCells_at (rl : Nat → Nat) (m j : Nat) (h : j < m) :
    (msCells rl m)[j * 4]? = some (.int .i64 (rl j)) ∧ (msCells rl m)[j * 4 + 1]? = some (.int .i64 0) ∧ (msCells rl m)[j * 4 + 2]? = some (.slice none 0 0) ∧ (msCells rl m)[j * 4 + 3]? = some (.slice none 0 0) := by
  induction m with
  | zero => omega
  | succ m ih =>
    have hl := msCells_length rl m
    by_cases e : j = m
    · subst e
      simp only [msCells]
      refine ⟨?_, ?_, ?_, ?_⟩ <;> rw [List.getElem?_append_right (by omega), hl] <;> simp [Nat.add_sub_cancel_left]
    · obtain ⟨a, b, c, d⟩ := ih (by omega)
      simp only [msCells]
      refine ⟨?_, ?_, ?_, ?_⟩ <;> rw [List.getElem?_append_left (by omega)] <;> assumption

/-- What holds at each round over mem: the blocks of member and ms. -/
structure MS (q : XB) (w : World) (M : Nat) (rl : Nat → Nat) (cap j : Nat) (wr : World) : Prop where
  x : XS q w (idx q.kk) (idx q.kk) (dbl q.kk) (idx (2 * q.kk)) wr
  mem : Row wr M 4 q.kk (fun r => .bool (memb rl j r))
  own : wr.ownsRow (M + 1) 52 4 (.slice (some ⟨M + 1, 0, none⟩) j cap) j (msCells rl j)
  xlt : q.b0 < M ∧ q.b1 < M ∧ q.b2 < M ∧ q.b4 < M ∧ q.bx < M
  wlt : w.heap.size ≤ M

theorem memb_upd (rl : Nat → Nat) (j r : Nat) : upd (fun r => Value.bool (memb rl j r)) (rl j) (.bool true) r = .bool (memb rl (j + 1) r) := by
  unfold upd
  split
  · rename_i h; subst h; simp [memb_succ]
  · rename_i h
    have : (rl j == r) = false := by simp; omega
    rw [memb_succ, this, Bool.or_false]

theorem MS.step {q : XB} {w : World} {M : Nat} {rl : Nat → Nat} {cap j : Nat} {wr w1 : World} {o : Obj} (h : MS q w M rl cap j wr)
    (hown : w1.ownsRow (M + 1) 52 4 (.slice (some ⟨M + 1, 0, none⟩) (j + 1) cap) (j + 1) (msCells rl j ++ [.int .i64 (rl j), .int .i64 0, .slice none 0 0, .slice none 0 0]))
    (hg : ((wr.setCell ⟨M, rl j, none⟩ (.bool true)).alloc o).grownBy w1 (some (M + 1))) : MS q w M rl cap (j + 1) w1 := by
  obtain ⟨x0, x1, x2, x4, xx⟩ := h.xlt
  have hw := h.wlt
  have hm := h.mem.lt
  have hb : ∀ k, k < M → w1.heap[k]? = wr.heap[k]? := by
    intro k hk
    refine (hg.block k (by simp; omega) (by simp; omega)).trans ?_
    rw [Below.heap_alloc _ _ _ (by simp; omega), Below.heap_setCell _ _ _ _ (by simp; omega)]
  have hb' : Below M wr w1 := ⟨hg.os, hg.tape, hg.output, by have := hg.size; simp at this; omega, hb⟩
  refine ⟨⟨(hb _ xx).trans h.x.hx, h.x.r0.same (hb _ x0), h.x.r1.same (hb _ x1), h.x.r2.same (hb _ x2), h.x.r4.same (hb _ x4), h.x.bel.trans (hb'.mono hw)⟩, ?_, hown, h.xlt, h.wlt⟩
  have r := ((h.mem.set (rl j) (.bool true)).alloc o).same (hg.block M (by simp; omega) (by simp))
  exact r.congr (fun i _ => memb_upd rl j i)

theorem MS.start {q : XB} {w wr : World} {rl : Nat → Nat} {n : Nat} {cs : Array Value} (h : XS q w (idx q.kk) (idx q.kk) (dbl q.kk) (idx (2 * q.kk)) wr) (hn : n ≤ 1024) (hcs : cs.size = n * 4) :
    MS q w wr.heap.size rl n 0 ((wr.alloc (.cells (madeCells #[.bool false] q.kk) 4)).alloc (.cells cs 52)) := by
  have hb : Below wr.heap.size wr ((wr.alloc (.cells (madeCells #[.bool false] q.kk) 4)).alloc (.cells cs 52)) := ((Below.refl _ _).alloc (Nat.le_refl _) _).alloc (by simp) _
  have hw := h.bel.size
  refine ⟨h.keep _ hb (Nat.le_refl _) hw, ?_, ?_, ⟨h.r0.lt, h.r1.lt, h.r2.lt, h.r4.lt, lt_of_block h.hx⟩, hw⟩
  · exact ((Row.made wr (.bool false) rfl q.kk 4).alloc _).congr (fun j _ => by simp [memb])
  · have := World.ownsRow_made (base := wr.heap.size + 1) (e := 52) (size := 4) (wr.alloc (.cells (madeCells #[.bool false] q.kk) 4)) cs n (by simp) (by unfold maxLen; omega) hcs
    simpa [msCells] using this

theorem k_info118 : (Yba.prog.info? 118).map (fun i => (i.zero, i.size, i.bytes)) = some (some (.agg #[.string ⟨#[]⟩, .int .i64 0, .slice none 0 0, .slice none 0 0, .map none, .map none, .slice none 0 0]), 7, 112) := by kernel_rfl

/-- make([]role, n). -/
theorem make_roles (n : Nat) (hn : n ≤ 1024) : ∃ cs : Array Value, (∀ r, r < n → cs[r * 7 + 6]? = some (.slice none 0 0)) ∧
    ∀ w : World, (Instr.makeSlice 53 (.int .i64 n) (.int .i64 n)).run Yba.prog w = .ok (.slice (some ⟨w.heap.size, 0, none⟩) n n) (w.alloc (.cells cs 118)) := by
  obtain ⟨i, hi, hz0, hz1, hz2⟩ := info_parts k_info118
  refine ⟨madeCells (Value.agg #[.string ⟨#[]⟩, .int .i64 0, .slice none 0 0, .slice none 0 0, .map none, .map none, .slice none 0 0]).cells (n * 7), fun r hr => ?_, fun w => ?_⟩
  · have h1 : r * 7 + 6 < n * 7 := by omega
    have h2 : (r * 7 + 6) % 7 = 6 := by omega
    simp [madeCells, h1, Value.cells, h2]
  · have := run_make (P := Yba.prog) w 53 118 i _ Yba.underlying53 hi hz0 .i64 .i64 n n (by omega) (by omega) (by rw [hz2]; omega) (by omega)
    rw [hz1] at this
    simpa using this

end Go.Proofs.Ybulkawna
