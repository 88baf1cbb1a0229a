import Derived.Test.YbulkawnaRegion6
namespace Go.Proofs.Ybulkawna
open Go.RowKit
set_option linter.unusedVariables false

def Z3 (n : Nat) : Obj := .cells (madeCells #[.int .i64 0] n) 3 (0, 0)
def Z31 (n : Nat) : Obj := .cells (madeCells #[.slice none 0 0] n) 31 (0, 0)
def sl (b n : Nat) : Value := .slice (some ⟨b, 0, none⟩) n n
def xobj (b0 b1 b2 b3 b4 kk : Nat) : Array Value := #[sl b0 kk, sl b1 kk, sl b2 kk, sl b3 kk, sl b4 (2 * kk)]

def Blk (S : Nat) (own : Nat → Nat) (w : World) (i b : Nat) (o : Obj) : Prop := own b = i ∧ S ≤ b ∧ w.heap[b]? = some o
theorem Blk.mono {S : Nat} {own : Nat → Nat} {w : World} {i b : Nat} {o : Obj} (h : Blk S own w i b o) (x : Nat) (ob : Obj) : Blk S (upd own w.heap.size x) (w.alloc ob) i b o := by
  have hl := lt_of_block h.2.2
  exact ⟨by rw [upd_other _ _ _ _ (by omega)]; exact h.1, h.2.1, (Below.heap_alloc _ _ _ hl).trans h.2.2⟩
theorem Blk.new {S : Nat} (own : Nat → Nat) (w : World) (i : Nat) (o : Obj) (hS : S ≤ w.heap.size) : Blk S (upd own w.heap.size i) (w.alloc o) i w.heap.size o :=
  ⟨upd_same _ _ _, hS, heap_alloc_new w o⟩

def Five (kk S : Nat) (own : Nat → Nat) (w : World) (b0 b1 b2 b3 b4 : Nat) : Prop :=
  Blk S own w 1 b0 (Z3 kk) ∧ Blk S own w 3 b1 (Z3 kk) ∧ Blk S own w 5 b2 (Z3 kk) ∧ Blk S own w 7 b3 (Z31 kk) ∧ Blk S own w 10 b4 (Z3 (2 * kk))

/-- What operation i has yielded. -/
def Sp (kk S : Nat) (own : Nat → Nat) (w : World) (i : Nat) (v : Value) : Prop :=
  match i with
  | 1 => ∃ b, v = sl b kk ∧ Blk S own w 1 b (Z3 kk)
  | 3 => ∃ b, v = sl b kk ∧ Blk S own w 3 b (Z3 kk)
  | 5 => ∃ b, v = sl b kk ∧ Blk S own w 5 b (Z3 kk)
  | 7 => ∃ b, v = sl b kk ∧ Blk S own w 7 b (Z31 kk)
  | 9 => v = .int .i64 (2 * (kk : Int))
  | 10 => ∃ b, v = sl b (2 * kk) ∧ Blk S own w 10 b (Z3 (2 * kk))
  | 11 => ∃ b0 b1 b2 b3 b4, v = .agg (xobj b0 b1 b2 b3 b4 kk) ∧ Five kk S own w b0 b1 b2 b3 b4
  | 12 => ∃ bx b0 b1 b2 b3 b4, v = .pointer (some ⟨bx, 0, none⟩) ∧ Blk S own w 12 bx (.cells (xobj b0 b1 b2 b3 b4 kk) 44 (0, 0)) ∧ Five kk S own w b0 b1 b2 b3 b4
  | 13 => ∃ bx b0 b1 b2 b3 b4, v = .pointer (some ⟨bx, 0, none⟩) ∧ Blk S own w 12 bx (.cells (xobj b0 b1 b2 b3 b4 kk) 44 (0, 0)) ∧ Five kk S own w b0 b1 b2 b3 b4
  | _ => v = .int .i64 kk

theorem Five.mono {kk S : Nat} {own : Nat → Nat} {w : World} {b0 b1 b2 b3 b4 : Nat} (h : Five kk S own w b0 b1 b2 b3 b4) (x : Nat) (ob : Obj) : Five kk S (upd own w.heap.size x) (w.alloc ob) b0 b1 b2 b3 b4 :=
  ⟨h.1.mono x ob, h.2.1.mono x ob, h.2.2.1.mono x ob, h.2.2.2.1.mono x ob, h.2.2.2.2.mono x ob⟩

theorem Sp.mono {kk S : Nat} {own : Nat → Nat} {w : World} {i : Nat} {v : Value} (h : Sp kk S own w i v) (x : Nat) (ob : Obj) : Sp kk S (upd own w.heap.size x) (w.alloc ob) i v := by
  unfold Sp at h ⊢
  split at h
  · obtain ⟨b, e, h⟩ := h; exact ⟨b, e, h.mono x ob⟩
  · obtain ⟨b, e, h⟩ := h; exact ⟨b, e, h.mono x ob⟩
  · obtain ⟨b, e, h⟩ := h; exact ⟨b, e, h.mono x ob⟩
  · obtain ⟨b, e, h⟩ := h; exact ⟨b, e, h.mono x ob⟩
  · exact h
  · obtain ⟨b, e, h⟩ := h; exact ⟨b, e, h.mono x ob⟩
  · obtain ⟨b0, b1, b2, b3, b4, e, h⟩ := h; exact ⟨b0, b1, b2, b3, b4, e, h.mono x ob⟩
  · obtain ⟨bx, b0, b1, b2, b3, b4, e, hb, h⟩ := h; exact ⟨bx, b0, b1, b2, b3, b4, e, hb.mono x ob, h.mono x ob⟩
  · obtain ⟨bx, b0, b1, b2, b3, b4, e, hb, h⟩ := h; exact ⟨bx, b0, b1, b2, b3, b4, e, hb.mono x ob, h.mono x ob⟩
  · exact h

def I6 (a0 : Act) (w0 : World) (kk : Nat) (L : Array Bool) (a : Act) (w : World) : Prop :=
  ∃ (x : Nat → Value) (own : Nat → Nat), a = C6 a0 x ∧ (∀ i, i < 14 → L.getD i false = true → Sp kk w0.heap.size own w i (x (d6 i))) ∧ Below w0.heap.size w0 w

theorem I6_same {a0 : Act} {w0 : World} {kk : Nat} {L : Array Bool} {w : World} {x : Nat → Value} {own : Nat → Nat} {i : Nat} {v : Value} (hL : L.size = 14) (hi : i < 14)
    (h : ∀ i, i < 14 → L.getD i false = true → Sp kk w0.heap.size own w i (x (d6 i))) (hb : Below w0.heap.size w0 w) (hv : Sp kk w0.heap.size own w i v) :
    I6 a0 w0 kk (L.setIfInBounds i true) ((C6 a0 x).put (some (d6 i)) v) w := by
  refine ⟨upd x (d6 i) v, own, C6_put a0 x i hi v, fun j hj hl => ?_, hb⟩
  rw [getD_set _ _ _ _ (by omega)] at hl
  by_cases e : j = i
  · subst e; rw [upd_same]; exact hv
  · rw [if_neg e] at hl
    rw [upd_other _ _ _ _ (fun q => e (d6_inj hj hi q))]
    exact h j hj hl
theorem I6_alloc {a0 : Act} {w0 : World} {kk : Nat} {L : Array Bool} {w : World} {x : Nat → Value} {own : Nat → Nat} {i : Nat} {v : Value} (o : Obj) (hL : L.size = 14) (hi : i < 14)
    (h : ∀ i, i < 14 → L.getD i false = true → Sp kk w0.heap.size own w i (x (d6 i))) (hb : Below w0.heap.size w0 w) (hv : Sp kk w0.heap.size (upd own w.heap.size i) (w.alloc o) i v) :
    I6 a0 w0 kk (L.setIfInBounds i true) ((C6 a0 x).put (some (d6 i)) v) (w.alloc o) := by
  refine ⟨upd x (d6 i) v, upd own w.heap.size i, C6_put a0 x i hi v, fun j hj hl => ?_, hb.alloc hb.size o⟩
  rw [getD_set _ _ _ _ (by omega)] at hl
  by_cases e : j = i
  · subst e; rw [upd_same]; exact hv
  · rw [if_neg e] at hl
    rw [upd_other _ _ _ _ (fun q => e (d6_inj hj hi q))]
    exact (h j hj hl).mono i o

/-- The region's text, as far as the proof looks at it. -/
structure Ops6 (ops : Array Oper) : Prop where
  size : ops.size = 14
  dst : ((List.range 14).all fun i => match ops[i]? with | some o => (o.dst == some (d6 i)) && o.guard.isNone && (o.after.all fun e => decide (e.on < i)) | Option.none => false) = true
  dep : ([(1, 0), (3, 2), (5, 4), (7, 6), (9, 8), (10, 9), (11, 1), (11, 3), (11, 5), (11, 7), (11, 10), (12, 11), (13, 12)].all fun (p : Nat × Nat) => match ops[p.1]? with | some o => o.after.any (fun e => e.on == p.2 && Region.binds .any e) | Option.none => false) = true
  op0 : (ops[0]?).map (·.op) = some (.move (.tmp 9))
  op1 : (ops[1]?).map (·.op) = some (.makeSlice 31 (.tmp 39) (.tmp 39))
  op2 : (ops[2]?).map (·.op) = some (.move (.tmp 9))
  op3 : (ops[3]?).map (·.op) = some (.makeSlice 31 (.tmp 41) (.tmp 41))
  op4 : (ops[4]?).map (·.op) = some (.move (.tmp 9))
  op5 : (ops[5]?).map (·.op) = some (.makeSlice 31 (.tmp 43) (.tmp 43))
  op6 : (ops[6]?).map (·.op) = some (.move (.tmp 9))
  op7 : (ops[7]?).map (·.op) = some (.makeSlice 42 (.tmp 45) (.tmp 45))
  op8 : (ops[8]?).map (·.op) = some (.move (.tmp 9))
  op9 : (ops[9]?).map (·.op) = some (.binOp .mul 3 (.const (.int .i64 2)) (.tmp 47) 3)
  op10 : (ops[10]?).map (·.op) = some (.makeSlice 31 (.tmp 48) (.tmp 48))
  op11 : (ops[11]?).map (·.op) = some (.build 44 #[(0, .tmp 40), (1, .tmp 42), (2, .tmp 44), (3, .tmp 46), (4, .tmp 49)])
  op12 : (ops[12]?).map (·.op) = some (.box 44 (.tmp 50))
  op13 : (ops[13]?).map (·.op) = some (.assign (.tmp 51))

theorem Ops6.at {ops : Array Oper} (h : Ops6 ops) {i : Nat} {o : Oper} (ho : ops[i]? = some o) (hi : i < 14) : o.dst = some (d6 i) ∧ o.guard = none ∧ ∀ e ∈ o.after, e.on < i := by
  have := List.all_eq_true.1 h.dst i (List.mem_range.2 hi)
  rw [ho] at this
  simp only [Bool.and_eq_true, beq_iff_eq, Option.isNone_iff_eq_none, Array.all_eq_true_iff_forall_mem, decide_eq_true_eq] at this
  exact ⟨this.1.1, this.1.2, this.2⟩
theorem Ops6.dep' {ops : Array Oper} (h : Ops6 ops) {i j : Nat} {o : Oper} {L : Array Bool} (ho : ops[i]? = some o) (hd : ∀ e ∈ o.after, Region.binds .any e = true → L.getD e.on false = true)
    (hm : (i, j) ∈ [(1, 0), (3, 2), (5, 4), (7, 6), (9, 8), (10, 9), (11, 1), (11, 3), (11, 5), (11, 7), (11, 10), (12, 11), (13, 12)]) : L.getD j false = true := by
  have := List.all_eq_true.1 h.dep (i, j) hm
  simp only [ho] at this
  rw [Array.any_eq_true'] at this
  obtain ⟨e, he, hb⟩ := this
  simp only [Bool.and_eq_true, beq_iff_eq] at hb
  rw [← hb.1]
  exact hd e he hb.2

end Go.Proofs.Ybulkawna
