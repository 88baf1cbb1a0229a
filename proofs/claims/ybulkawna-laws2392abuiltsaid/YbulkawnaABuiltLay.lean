import Derived.Test.YbulkawnaAFixedWalk
import Derived.Test.YbulkawnaAListed
import Derived.Deep.DeepCutAuto
namespace Go.Proofs.Ybulkawna
open Go.RowKit
set_option linter.unusedVariables false

/-- What the literal &pathAtoms{..} lays. -/
def Laid6 (w : World) (kk : Nat) (s10 : Value) (wx : World) : Prop :=
  ∃ bx b0 b1 b2 b3 b4 : Nat, s10 = .pointer (some ⟨bx, 0, none⟩) ∧
    (w.heap.size ≤ b0 ∧ w.heap.size ≤ b1 ∧ w.heap.size ≤ b2 ∧ w.heap.size ≤ b4 ∧ w.heap.size ≤ bx) ∧
    (b0 ≠ b1 ∧ b0 ≠ b2 ∧ b0 ≠ b4 ∧ b1 ≠ b2 ∧ b1 ≠ b4 ∧ b2 ≠ b4 ∧ b0 ≠ bx ∧ b1 ≠ bx ∧ b2 ≠ bx ∧ b4 ≠ bx) ∧
    wx.heap[bx]? = some (.cells #[.slice (some ⟨b0, 0, none⟩) kk kk, .slice (some ⟨b1, 0, none⟩) kk kk, .slice (some ⟨b2, 0, none⟩) kk kk, .slice (some ⟨b3, 0, none⟩) kk kk, .slice (some ⟨b4, 0, none⟩) (2 * kk) (2 * kk)] 44 (0, 0)) ∧
    wx.heap[b0]? = some (.cells (madeCells #[.int .i64 0] kk) 3 (0, 0)) ∧ wx.heap[b1]? = some (.cells (madeCells #[.int .i64 0] kk) 3 (0, 0)) ∧ wx.heap[b2]? = some (.cells (madeCells #[.int .i64 0] kk) 3 (0, 0)) ∧
    wx.heap[b4]? = some (.cells (madeCells #[.int .i64 0] (2 * kk)) 3 (0, 0)) ∧ Below w.heap.size w wx

theorem six_heap (w : World) (A0 A1 A2 A3 A4 X : Obj) :
    let W := ((((((w.alloc A0).alloc A1).alloc A2).alloc A3).alloc A4).alloc X).drew
    W.heap[w.heap.size]? = some A0 ∧ W.heap[w.heap.size + 1]? = some A1 ∧ W.heap[w.heap.size + 1 + 1]? = some A2 ∧ W.heap[w.heap.size + 1 + 1 + 1]? = some A3 ∧ W.heap[w.heap.size + 1 + 1 + 1 + 1]? = some A4 ∧
      W.heap[w.heap.size + 1 + 1 + 1 + 1 + 1]? = some X ∧ Below w.heap.size w W := by
  intro W
  have hb : Below w.heap.size w W := by
    refine (((((((Below.refl _ _).alloc (Nat.le_refl _) _).alloc ?_ _).alloc ?_ _).alloc ?_ _).alloc ?_ _).alloc ?_ _).drew <;> simp <;> omega
  refine ⟨?_, ?_, ?_, ?_, ?_, ?_, hb⟩
  · show ((((((w.heap.push A0).push A1).push A2).push A3).push A4).push X)[w.heap.size]? = _
    simp only [Array.getElem?_push, Array.size_push]
    repeat (first | rw [if_neg (by omega)] | rw [if_pos True.intro])
  · show ((((((w.heap.push A0).push A1).push A2).push A3).push A4).push X)[w.heap.size + 1]? = _
    simp only [Array.getElem?_push, Array.size_push]
    repeat (first | rw [if_neg (by omega)] | rw [if_pos True.intro])
  · show ((((((w.heap.push A0).push A1).push A2).push A3).push A4).push X)[w.heap.size + 1 + 1]? = _
    simp only [Array.getElem?_push, Array.size_push]
    repeat (first | rw [if_neg (by omega)] | rw [if_pos True.intro])
  · show ((((((w.heap.push A0).push A1).push A2).push A3).push A4).push X)[w.heap.size + 1 + 1 + 1]? = _
    simp only [Array.getElem?_push, Array.size_push]
    repeat (first | rw [if_neg (by omega)] | rw [if_pos True.intro])
  · show ((((((w.heap.push A0).push A1).push A2).push A3).push A4).push X)[w.heap.size + 1 + 1 + 1 + 1]? = _
    simp only [Array.getElem?_push, Array.size_push]
    repeat (first | rw [if_neg (by omega)] | rw [if_pos True.intro])
  · show ((((((w.heap.push A0).push A1).push A2).push A3).push A4).push X)[w.heap.size + 1 + 1 + 1 + 1 + 1]? = _
    simp only [Array.getElem?_push, Array.size_push]
    repeat (first | rw [if_neg (by omega)] | rw [if_pos True.intro])

end Go.Proofs.Ybulkawna
