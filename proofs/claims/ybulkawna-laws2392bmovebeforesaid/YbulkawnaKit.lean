import Derived.Test.YbulkawnaRows
import Derived.WalkKit
import Derived.WalkSpells
import Derived.WalkLawsBesides
import Derived.RowKit3
import Derived.OneCell
namespace Go.Proofs.Ybulkawna
open Go.RowKit
set_option linter.unusedVariables false

/-- Block b is a row of n cells, cell j holding f j; none of it is frozen. -/
def Row (w : World) (b : Nat) (t : TypeId) (n : Nat) (f : Nat → Value) : Prop :=
  ∃ cs : Array Value, w.heap[b]? = some (.cells cs t (0, 0)) ∧ cs.size = n ∧ ∀ j, j < n → cs[j]? = some (f j)

/-- f, but v at place i. -/
def upd {α : Type} (f : Nat → α) (i : Nat) (v : α) : Nat → α := fun j => if j = i then v else f j

theorem upd_same {α : Type} (f : Nat → α) (i : Nat) (v : α) : upd f i v i = v := by simp [upd]
theorem upd_other {α : Type} (f : Nat → α) (i : Nat) (v : α) (j : Nat) (h : j ≠ i) : upd f i v j = f j := by simp [upd, h]

theorem Row.cell {w : World} {b : Nat} {t : TypeId} {n : Nat} {f : Nat → Value} (h : Row w b t n f) (j : Nat) (hj : j < n) : w.cell? ⟨b, j, none⟩ = some (f j) := by
  obtain ⟨cs, h1, h2, h3⟩ := h
  show (match w.heap[b]? with | some (.cells c _ _) => c[j]? | _ => none) = some (f j)
  rw [h1]; exact h3 j hj
theorem Row.free {w : World} {b : Nat} {t : TypeId} {n : Nat} {f : Nat → Value} (h : Row w b t n f) (j : Nat) : w.frozen? ⟨b, j, none⟩ = false := by
  obtain ⟨cs, h1, h2, h3⟩ := h
  simp [World.frozen?, h1]
theorem Row.lt {w : World} {b : Nat} {t : TypeId} {n : Nat} {f : Nat → Value} (h : Row w b t n f) : b < w.heap.size := by
  obtain ⟨cs, h1, _⟩ := h; exact lt_of_block h1
theorem Row.congr {w : World} {b : Nat} {t : TypeId} {n : Nat} {f g : Nat → Value} (h : Row w b t n f) (e : ∀ j, j < n → f j = g j) : Row w b t n g := by
  obtain ⟨cs, h1, h2, h3⟩ := h
  exact ⟨cs, h1, h2, fun j hj => by rw [h3 j hj, e j hj]⟩
theorem Row.same {w w' : World} {b : Nat} {t : TypeId} {n : Nat} {f : Nat → Value} (h : Row w b t n f) (e : w'.heap[b]? = w.heap[b]?) : Row w' b t n f := by
  obtain ⟨cs, h1, h2, h3⟩ := h
  exact ⟨cs, e.trans h1, h2, h3⟩
theorem Row.drew {w : World} {b : Nat} {t : TypeId} {n : Nat} {f : Nat → Value} (h : Row w b t n f) : Row w.drew b t n f := h
theorem Row.drewN {w : World} {b : Nat} {t : TypeId} {n : Nat} {f : Nat → Value} (h : Row w b t n f) (m : Nat) : Row (w.drewN m) b t n f := h
theorem Row.alloc {w : World} {b : Nat} {t : TypeId} {n : Nat} {f : Nat → Value} (h : Row w b t n f) (o : Obj) : Row (w.alloc o) b t n f :=
  h.same (Below.heap_alloc _ _ _ h.lt)
theorem Row.other {w : World} {b : Nat} {t : TypeId} {n : Nat} {f : Nat → Value} (h : Row w b t n f) (a : Addr) (v : Value) (ha : b ≠ a.block) : Row (w.setCell a v) b t n f :=
  h.same (Below.heap_setCell _ _ _ _ ha)
theorem heap_set_same {w : World} {b j : Nat} {cs : Array Value} {t : TypeId} {fr : Nat × Nat} {v : Value} (h : w.heap[b]? = some (.cells cs t fr)) :
    (w.setCell ⟨b, j, none⟩ v).heap[b]? = some (.cells (cs.setIfInBounds j v) t fr) := by
  have hlt := lt_of_block h
  have h' : w.heap[b] = .cells cs t fr := by simpa [Array.getElem?_eq_getElem hlt] using h
  show (w.heap.modify b _)[b]? = _
  rw [Array.getElem?_eq_getElem (by simpa using hlt), Array.getElem_modify_self, h']
  rfl
theorem Row.set {w : World} {b : Nat} {t : TypeId} {n : Nat} {f : Nat → Value} (h : Row w b t n f) (i : Nat) (v : Value) : Row (w.setCell ⟨b, i, none⟩ v) b t n (upd f i v) := by
  obtain ⟨cs, h1, h2, h3⟩ := h
  refine ⟨cs.setIfInBounds i v, heap_set_same h1, by simpa using h2, fun j hj => ?_⟩
  by_cases e : j = i
  · subst e; rw [upd_same, Array.getElem?_setIfInBounds_self_of_lt (by omega)]
  · rw [upd_other _ _ _ _ e, Array.getElem?_setIfInBounds_ne (fun q => e q.symm)]; exact h3 j hj
theorem Row.made (w : World) (z : Value) (hz : z.cells = #[z]) (n : Nat) (t : TypeId) : Row (w.alloc (.cells (madeCells z.cells n) t)) w.heap.size t n (fun _ => z) := by
  refine ⟨_, heap_alloc_new w _, size_madeCells _ _, fun j hj => ?_⟩
  simp [madeCells, hj, hz, Nat.mod_one]

/-- make([]T, n), T of one cell. -/
theorem make_row {t e : TypeId} {z : Value} {by' : Nat} (ht : Yba.prog.underlying t = some (.slice e)) (hinfo : (Yba.prog.info? e).map (fun i => (i.zero, i.size, i.bytes)) = some (some z, 1, by'))
    (hb : by' ≤ 1024) (n : Int) (h0 : 0 ≤ n) (hn : n ≤ 65536) (w : World) :
    (Instr.makeSlice t (.int .i64 n) (.int .i64 n)).run Yba.prog w = .ok (.slice (some ⟨w.heap.size, 0, none⟩) n.toNat n.toNat) (w.alloc (.cells (madeCells z.cells n.toNat) e)) := by
  obtain ⟨i, hi, hz0, hz1, hz2⟩ := info_parts hinfo
  have hm : (by' : Int) * n ≤ 1024 * 65536 := Int.mul_le_mul (by omega) hn h0 (by omega)
  have := run_make (P := Yba.prog) w t e i z ht hi hz0 .i64 .i64 n n h0 (Int.le_refl _) (by rw [hz2]; omega) (by omega)
  rw [hz1, Nat.mul_one] at this
  exact this

theorem k_info3 : (Yba.prog.info? 3).map (fun i => (i.zero, i.size, i.bytes)) = some (some (.int .i64 0), 1, 8) := by kernel_rfl
theorem k_info4 : (Yba.prog.info? 4).map (fun i => (i.zero, i.size, i.bytes)) = some (some (.bool false), 1, 1) := by kernel_rfl
theorem k_info31 : (Yba.prog.info? 31).map (fun i => (i.zero, i.size, i.bytes)) = some (some (.slice none 0 0), 1, 24) := by kernel_rfl
theorem k_info37 : (Yba.prog.info? 37).map (fun i => (i.zero, i.size, i.bytes)) = some (some (.int .i8 0), 1, 1) := by kernel_rfl
theorem k_info94 : (Yba.prog.info? 94).map (fun i => (i.zero, i.size, i.bytes)) = some (some (.int .u64 0), 1, 8) := by kernel_rfl

end Go.Proofs.Ybulkawna
