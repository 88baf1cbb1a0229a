import Derived.Test.YbulkawnaBLay
import Derived.Deep.DeepCutAuto
namespace Go.Proofs.Ybulkawna
open Go.RowKit B
set_option linter.unusedVariables false
theorem bm_45 (n : Nat) (hn : n ≤ 201) (w : World) : (Instr.makeSlice 45 (.int .i64 ((n : Int) + 1)) (.int .i64 ((n : Int) + 1))).run Yba.prog w = .ok (.slice (some ⟨w.heap.size, 0, none⟩) (n + 1) (n + 1)) (w.alloc (.cells (madeCells #[.int .u64 0] (n + 1)) 94)) := by
  have := make_row Yba.underlying45 k_info94 (by omega) ((n : Int) + 1) (by omega) (by omega) w
  rwa [show ((n : Int) + 1).toNat = n + 1 from by omega] at this
theorem bm_31 (n : Nat) (hn : n ≤ 201) (w : World) : (Instr.makeSlice 31 (.int .i64 ((n : Int) + 1)) (.int .i64 ((n : Int) + 1))).run Yba.prog w = .ok (.slice (some ⟨w.heap.size, 0, none⟩) (n + 1) (n + 1)) (w.alloc (.cells (madeCells #[.int .i64 0] (n + 1)) 3)) := by
  have := make_row Yba.underlying31 k_info3 (by omega) ((n : Int) + 1) (by omega) (by omega) w
  rwa [show ((n : Int) + 1).toNat = n + 1 from by omega] at this
theorem bm_31' (n : Nat) (hn : n ≤ 201) (w : World) : (Instr.makeSlice 31 (.int .i64 (n : Int)) (.int .i64 (n : Int))).run Yba.prog w = .ok (.slice (some ⟨w.heap.size, 0, none⟩) n n) (w.alloc (.cells (madeCells #[.int .i64 0] n) 3)) := by
  have := make_row Yba.underlying31 k_info3 (by omega) (n : Int) (by omega) (by omega) w
  rwa [Int.toNat_natCast] at this

/-- The empty orderList. -/
def Z75 : Obj := .cells #[.slice none 0 0, .slice none 0 0, .slice none 0 0, .slice none 0 0, .slice none 0 0] 75 (0, 0)
def bsl (b n : Nat) : Value := .slice (some ⟨b, 0, none⟩) (n + 1) (n + 1)

structure L12 (w : World) (n b bl bn bp : Nat) (w' : World) : Prop where
  ne : b ≠ bl ∧ b ≠ bn ∧ b ≠ bp ∧ bl ≠ bn ∧ bl ≠ bp ∧ bn ≠ bp
  ge : w.heap.size < b ∧ w.heap.size < bl ∧ w.heap.size < bn ∧ w.heap.size < bp
  hb : w'.heap[b]? = some (.cells #[bsl bl n, bsl bn n, bsl bp n, .slice none 0 0, .slice none 0 0] 75 (0, 0))
  hl : w'.heap[bl]? = some (.cells (madeCells #[.int .u64 0] (n + 1)) 94 (0, 0))
  hn : w'.heap[bn]? = some (.cells (madeCells #[.int .i64 0] (n + 1)) 3 (0, 0))
  hp : w'.heap[bp]? = some (.cells (madeCells #[.int .i64 0] (n + 1)) 3 (0, 0))
  h2 : w'.heap[w.heap.size]? = some Z75
  below : Below w.heap.size w w'

/-- What lies at place k. -/
def ob12 (w : World) (n i j k l : Nat) (m : Nat) : Obj :=
  if m = i then .cells #[bsl (w.heap.size + j) n, bsl (w.heap.size + k) n, bsl (w.heap.size + l) n, .slice none 0 0, .slice none 0 0] 75 (0, 0)
  else if m = j then .cells (madeCells #[.int .u64 0] (n + 1)) 94 (0, 0)
  else .cells (madeCells #[.int .i64 0] (n + 1)) 3 (0, 0)

theorem chain12 (w : World) (o0 o1 o2 o3 o4 : Obj) : (((((w.alloc o0).alloc o1).alloc o2).alloc o3).alloc o4).drew.heap[w.heap.size]? = some o0
    ∧ (((((w.alloc o0).alloc o1).alloc o2).alloc o3).alloc o4).drew.heap[w.heap.size + 1]? = some o1 ∧ (((((w.alloc o0).alloc o1).alloc o2).alloc o3).alloc o4).drew.heap[w.heap.size + 2]? = some o2
    ∧ (((((w.alloc o0).alloc o1).alloc o2).alloc o3).alloc o4).drew.heap[w.heap.size + 3]? = some o3 ∧ (((((w.alloc o0).alloc o1).alloc o2).alloc o3).alloc o4).drew.heap[w.heap.size + 4]? = some o4
    ∧ Below w.heap.size w (((((w.alloc o0).alloc o1).alloc o2).alloc o3).alloc o4).drew := by
  have e1 : (w.alloc o0).heap.size = w.heap.size + 1 := by simp
  have e2 : ((w.alloc o0).alloc o1).heap.size = w.heap.size + 2 := by simp
  have e3 : (((w.alloc o0).alloc o1).alloc o2).heap.size = w.heap.size + 3 := by simp
  have e4 : ((((w.alloc o0).alloc o1).alloc o2).alloc o3).heap.size = w.heap.size + 4 := by simp
  have x0 := heap_alloc_new w o0
  have x1 := heap_alloc_new (w.alloc o0) o1
  have x2 := heap_alloc_new ((w.alloc o0).alloc o1) o2
  have x3 := heap_alloc_new (((w.alloc o0).alloc o1).alloc o2) o3
  have x4 := heap_alloc_new ((((w.alloc o0).alloc o1).alloc o2).alloc o3) o4
  rw [e1] at x1
  rw [e2] at x2
  rw [e3] at x3
  rw [e4] at x4
  refine ⟨?_, ?_, ?_, ?_, ?_, ?_⟩
  · exact (Below.heap_alloc _ _ _ (by omega)).trans ((Below.heap_alloc _ _ _ (by omega)).trans ((Below.heap_alloc _ _ _ (by omega)).trans ((Below.heap_alloc _ _ _ (by omega)).trans x0)))
  · exact (Below.heap_alloc _ _ _ (by omega)).trans ((Below.heap_alloc _ _ _ (by omega)).trans ((Below.heap_alloc _ _ _ (by omega)).trans x1))
  · exact (Below.heap_alloc _ _ _ (by omega)).trans ((Below.heap_alloc _ _ _ (by omega)).trans x2)
  · exact (Below.heap_alloc _ _ _ (by omega)).trans x3
  · exact x4
  · exact ((((((Below.refl w.heap.size w).alloc (by omega) o0).alloc (by omega) o1).alloc (by omega) o2).alloc (by omega) o3).alloc (by omega) o4).drew

def perm4 (i j k l : Nat) : Bool := decide (i ≠ j ∧ i ≠ k ∧ i ≠ l ∧ j ≠ k ∧ j ≠ l ∧ k ≠ l) && decide (1 ≤ i ∧ i ≤ 4 ∧ 1 ≤ j ∧ j ≤ 4 ∧ 1 ≤ k ∧ k ≤ 4 ∧ 1 ≤ l ∧ l ≤ 4)

theorem lay12 (w : World) (n i j k l : Nat) (h : perm4 i j k l = true) :
    ∃ b bl bn bp, (.pointer (some ⟨w.heap.size + i, 0, none⟩) : Value) = .pointer (some ⟨b, 0, none⟩) ∧ L12 w n b bl bn bp (((((w.alloc Z75).alloc (ob12 w n i j k l 1)).alloc (ob12 w n i j k l 2)).alloc (ob12 w n i j k l 3)).alloc (ob12 w n i j k l 4)).drew := by
  unfold perm4 at h
  simp only [Bool.and_eq_true, decide_eq_true_eq] at h
  obtain ⟨h1, h2⟩ := h
  obtain ⟨c0, c1, c2, c3, c4, cb⟩ := chain12 w Z75 (ob12 w n i j k l 1) (ob12 w n i j k l 2) (ob12 w n i j k l 3) (ob12 w n i j k l 4)
  generalize (((((w.alloc Z75).alloc (ob12 w n i j k l 1)).alloc (ob12 w n i j k l 2)).alloc (ob12 w n i j k l 3)).alloc (ob12 w n i j k l 4)).drew = w' at *
  have at' : ∀ m, 1 ≤ m → m ≤ 4 → w'.heap[w.heap.size + m]? = some (ob12 w n i j k l m) := by
    intro m a b
    have : m = 1 ∨ m = 2 ∨ m = 3 ∨ m = 4 := by omega
    rcases this with rfl | rfl | rfl | rfl <;> assumption
  refine ⟨w.heap.size + i, w.heap.size + j, w.heap.size + k, w.heap.size + l, rfl, ⟨by omega, by omega, ?_, ?_, ?_, ?_, c0, cb⟩⟩
  · rw [at' i (by omega) (by omega), ob12, if_pos rfl]
  · rw [at' j (by omega) (by omega), ob12, if_neg (by omega), if_pos rfl]
  · rw [at' k (by omega) (by omega), ob12, if_neg (by omega), if_neg (by omega)]
  · rw [at' l (by omega) (by omega), ob12, if_neg (by omega), if_neg (by omega)]

theorem L12.om {w : World} {n b bl bn bp : Nat} {w' : World} (h : L12 w n b bl bn bp w') (hn : 2 ≤ n ∧ n ≤ 201) :
    OBok ⟨b, bl, bn, bp, n⟩ ∧ OM ⟨b, bl, bn, bp, n⟩ ⟨fun _ => 0, fun _ => 0, fun _ => 0⟩ (w'.setCell ⟨b, 4, none⟩ (bsl bl n)) := by
  obtain ⟨n1, n2, n3, n4, n5, n6⟩ := h.ne
  refine ⟨⟨h.ne, hn⟩, ⟨?_, ?_, ?_, ?_⟩⟩
  · have := heap_set_same (j := 4) (v := bsl bl n) h.hb
    simpa [bsl] using this
  · exact ⟨_, (Below.heap_setCell _ _ _ _ (by simp; omega)).trans h.hl, size_madeCells _ _, fun j hj => by simp [madeCells, hj, u64v, Nat.mod_one]⟩
  · exact ⟨_, (Below.heap_setCell _ _ _ _ (by simp; omega)).trans h.hn, size_madeCells _ _, fun j hj => by simp [madeCells, hj, i64v, Nat.mod_one]⟩
  · exact ⟨_, (Below.heap_setCell _ _ _ _ (by simp; omega)).trans h.hp, size_madeCells _ _, fun j hj => by simp [madeCells, hj, i64v, Nat.mod_one]⟩

end Go.Proofs.Ybulkawna
