import Derived.Test.YbulkawnaRegion6b
import Derived.BigRegion
namespace Go.Proofs.Ybulkawna
open Go.RowKit
set_option linter.unusedVariables false

theorem r6_mul (kk : Nat) (hk : kk ≤ 1024) (w : World) : (binOp .mul 3 (.int .i64 2) (.int .i64 kk)).run Yba.prog w = .ok (.int .i64 (2 * (kk : Int))) w := by
  have : IntKind.i64.wrap (2 * (kk : Int)) = 2 * (kk : Int) := by rw [IntKind.wrap_i64]; omega
  simp [go_sem, this]
theorem r6_make (kk : Nat) (hk : kk ≤ 2048) (w : World) : (Instr.makeSlice 31 (.int .i64 (kk : Int)) (.int .i64 (kk : Int))).run Yba.prog w = .ok (sl w.heap.size kk) (w.alloc (Z3 kk)) := by
  have := make_row Yba.underlying31 k_info3 (by omega) (kk : Int) (by omega) (by omega) w
  rwa [Int.toNat_natCast] at this
theorem r6_make' (kk : Nat) (hk : kk ≤ 1024) (w : World) : (Instr.makeSlice 31 (.int .i64 (2 * (kk : Int))) (.int .i64 (2 * (kk : Int)))).run Yba.prog w = .ok (sl w.heap.size (2 * kk)) (w.alloc (Z3 (2 * kk))) := by
  have := make_row Yba.underlying31 k_info3 (by omega) (2 * (kk : Int)) (by omega) (by omega) w
  rwa [show (2 * (kk : Int)).toNat = 2 * kk from by omega] at this
theorem r6_make31 (kk : Nat) (hk : kk ≤ 1024) (w : World) : (Instr.makeSlice 42 (.int .i64 (kk : Int)) (.int .i64 (kk : Int))).run Yba.prog w = .ok (sl w.heap.size kk) (w.alloc (Z31 kk)) := by
  have := make_row Yba.underlying42 k_info31 (by omega) (kk : Int) (by omega) (by omega) w
  rwa [Int.toNat_natCast] at this
theorem r6_build (b0 b1 b2 b3 b4 kk : Nat) (w : World) : (Instr.build 44 #[(0, sl b0 kk), (1, sl b1 kk), (2, sl b2 kk), (3, sl b3 kk), (4, sl b4 (2 * kk))]).run Yba.prog w = .ok (.agg (xobj b0 b1 b2 b3 b4 kk)) w := by
  kernel_rfl
theorem r6_box (b0 b1 b2 b3 b4 kk : Nat) (w : World) : (Instr.box 44 (.agg (xobj b0 b1 b2 b3 b4 kk))).run Yba.prog w = .ok (.pointer (some ⟨w.heap.size, 0, none⟩)) (w.alloc (.cells (xobj b0 b1 b2 b3 b4 kk) 44 (0, 0))) := by
  simp [go_sem, xobj]

/-- The region of the literal, in whatever order. -/
theorem region6 {ops : Array Oper} {id : Nat} {Q : Exit → Act → World → Prop} (h : Ops6 ops) (a0 : Act) (w : World) (kk : Nat) (hs : a0.tmps.size = 169) (h9 : a0.eval (.tmp 9) = .int .i64 kk) (hk : kk ≤ 1024)
    (hQ : ∀ x wx, Laid6 w kk (x 10) wx → Q .normal (P6 a0 x) wx) : (Code.region id ops true).wp Yba.prog Q a0 w := by
  refine wp_region_any (by kernel_rfl) ?_
  have hw : Below w.heap.size w { w with drawn := w.drawn + 1 } := ⟨rfl, rfl, rfl, Nat.le_refl _, fun _ _ => rfl⟩
  have hneed : need ops (Array.replicate ops.size false) ≤ ops.size := by
    unfold need
    exact Nat.le_trans (List.length_filter_le _ _) (by simp)
  refine wpAny_inv (I6 a0 w kk) ?_ ?_ ops.size _ a0 _ (by simp) ⟨_, fun _ => 0, (C6_self a0).symm, fun i hi hl => ?_, hw⟩ hneed
  rotate_left 2
  · exfalso
    rw [Array.getD_eq_getD_getElem?, Array.getElem?_eq_getElem (by simp [h.size]; exact hi)] at hl
    simp at hl
  rotate_left 1
  · intro L a w1 hL ⟨x, own, ha, hI, hb⟩ hr
    have hall := ready_nil hL (fun i o ho => by
      have hi : i < 14 := by
        rcases Nat.lt_or_ge i ops.size with q | q
        · rw [h.size] at q; exact q
        · rw [Array.getElem?_eq_none q] at ho; cases ho
      exact (h.at ho hi).2.2) hr
    have h13 := hI 13 (by omega) (hall 13 (by rw [h.size]; omega))
    rw [ha, C6_chain]
    refine hQ x w1 ?_
    obtain ⟨bx, b0, b1, b2, b3, b4, e, hbx, f0, f1, f2, f3, f4⟩ := h13
    refine ⟨bx, b0, b1, b2, b3, b4, e, ⟨f0.2.1, f1.2.1, f2.2.1, f4.2.1, hbx.2.1⟩, ?_, hbx.2.2, f0.2.2, f1.2.2, f2.2.2, f4.2.2, hb⟩
    have o0 := f0.1; have o1 := f1.1; have o2 := f2.1; have o4 := f4.1; have ox := hbx.1
    refine ⟨?_, ?_, ?_, ?_, ?_, ?_, ?_, ?_, ?_, ?_⟩ <;> intro q <;> subst q <;> omega
  intro L a w i o hL ⟨x, own, ha, hI, hb⟩ ho hi hdep
  rw [h.size] at hL hi
  obtain ⟨hd, hg, _⟩ := h.at ho hi
  subst ha
  have hc : i = 0 ∨ i = 1 ∨ i = 2 ∨ i = 3 ∨ i = 4 ∨ i = 5 ∨ i = 6 ∨ i = 7 ∨ i = 8 ∨ i = 9 ∨ i = 10 ∨ i = 11 ∨ i = 12 ∨ i = 13 := by omega
  rcases hc with rfl | rfl | rfl | rfl | rfl | rfl | rfl | rfl | rfl | rfl | rfl | rfl | rfl | rfl
  · -- 0
    have hop : o.op = .move (.tmp 9) := by have := h.op0; rw [ho] at this; simpa using this
    refine wpOp_run ho hg (BigFrame.run_move _ hop w) ?_
    rw [hd, C6_nine a0 x hs, h9]
    exact I6_same hL (by omega) hI hb rfl
  · -- 1
    have hop : o.op = .makeSlice 31 (.tmp 39) (.tmp 39) := by have := h.op1; rw [ho] at this; simpa using this
    have e1 : (C6 a0 x).eval (.tmp 39) = .int .i64 kk := (C6_eval a0 x 0 (by omega) hs).trans (hI 0 (by omega) (h.dep' ho hdep (by simp)))
    refine wpOp_run (v := sl w.heap.size kk) (w' := w.alloc (Z3 kk)) ho hg (by simp [execOp, hop, e1, r6_make kk (by omega)]) ?_
    rw [hd]
    exact I6_alloc (i := 1) (Z3 kk) hL (by omega) hI hb ⟨_, rfl, Blk.new _ _ _ _ hb.size⟩
  · -- 2
    have hop : o.op = .move (.tmp 9) := by have := h.op2; rw [ho] at this; simpa using this
    refine wpOp_run ho hg (BigFrame.run_move _ hop w) ?_
    rw [hd, C6_nine a0 x hs, h9]
    exact I6_same hL (by omega) hI hb rfl
  · -- 3
    have hop : o.op = .makeSlice 31 (.tmp 41) (.tmp 41) := by have := h.op3; rw [ho] at this; simpa using this
    have e1 : (C6 a0 x).eval (.tmp 41) = .int .i64 kk := (C6_eval a0 x 2 (by omega) hs).trans (hI 2 (by omega) (h.dep' ho hdep (by simp)))
    refine wpOp_run (v := sl w.heap.size kk) (w' := w.alloc (Z3 kk)) ho hg (by simp [execOp, hop, e1, r6_make kk (by omega)]) ?_
    rw [hd]
    exact I6_alloc (i := 3) (Z3 kk) hL (by omega) hI hb ⟨_, rfl, Blk.new _ _ _ _ hb.size⟩
  · -- 4
    have hop : o.op = .move (.tmp 9) := by have := h.op4; rw [ho] at this; simpa using this
    refine wpOp_run ho hg (BigFrame.run_move _ hop w) ?_
    rw [hd, C6_nine a0 x hs, h9]
    exact I6_same hL (by omega) hI hb rfl
  · -- 5
    have hop : o.op = .makeSlice 31 (.tmp 43) (.tmp 43) := by have := h.op5; rw [ho] at this; simpa using this
    have e1 : (C6 a0 x).eval (.tmp 43) = .int .i64 kk := (C6_eval a0 x 4 (by omega) hs).trans (hI 4 (by omega) (h.dep' ho hdep (by simp)))
    refine wpOp_run (v := sl w.heap.size kk) (w' := w.alloc (Z3 kk)) ho hg (by simp [execOp, hop, e1, r6_make kk (by omega)]) ?_
    rw [hd]
    exact I6_alloc (i := 5) (Z3 kk) hL (by omega) hI hb ⟨_, rfl, Blk.new _ _ _ _ hb.size⟩
  · -- 6
    have hop : o.op = .move (.tmp 9) := by have := h.op6; rw [ho] at this; simpa using this
    refine wpOp_run ho hg (BigFrame.run_move _ hop w) ?_
    rw [hd, C6_nine a0 x hs, h9]
    exact I6_same hL (by omega) hI hb rfl
  · -- 7
    have hop : o.op = .makeSlice 42 (.tmp 45) (.tmp 45) := by have := h.op7; rw [ho] at this; simpa using this
    have e1 : (C6 a0 x).eval (.tmp 45) = .int .i64 kk := (C6_eval a0 x 6 (by omega) hs).trans (hI 6 (by omega) (h.dep' ho hdep (by simp)))
    refine wpOp_run (v := sl w.heap.size kk) (w' := w.alloc (Z31 kk)) ho hg (by simp [execOp, hop, e1, r6_make31 kk (by omega)]) ?_
    rw [hd]
    exact I6_alloc (i := 7) (Z31 kk) hL (by omega) hI hb ⟨_, rfl, Blk.new _ _ _ _ hb.size⟩
  · -- 8
    have hop : o.op = .move (.tmp 9) := by have := h.op8; rw [ho] at this; simpa using this
    refine wpOp_run ho hg (BigFrame.run_move _ hop w) ?_
    rw [hd, C6_nine a0 x hs, h9]
    exact I6_same hL (by omega) hI hb rfl
  · -- 9
    have hop : o.op = .binOp .mul 3 (.const (.int .i64 2)) (.tmp 47) 3 := by have := h.op9; rw [ho] at this; simpa using this
    have e1 : (C6 a0 x).eval (.tmp 47) = .int .i64 kk := (C6_eval a0 x 8 (by omega) hs).trans (hI 8 (by omega) (h.dep' ho hdep (by simp)))
    have e2 : (C6 a0 x).eval (.const (.int .i64 2)) = .int .i64 2 := rfl
    refine wpOp_run (v := .int .i64 (2 * (kk : Int))) (w' := w) ho hg (by simp only [execOp, hop, e1, e2]; simp [eqGuard, r6_mul kk hk]) ?_
    rw [hd]
    exact I6_same hL (by omega) hI hb rfl
  · -- 10
    have hop : o.op = .makeSlice 31 (.tmp 48) (.tmp 48) := by have := h.op10; rw [ho] at this; simpa using this
    have e1 : (C6 a0 x).eval (.tmp 48) = .int .i64 (2 * (kk : Int)) := (C6_eval a0 x 9 (by omega) hs).trans (hI 9 (by omega) (h.dep' ho hdep (by simp)))
    refine wpOp_run (v := sl w.heap.size (2 * kk)) (w' := w.alloc (Z3 (2 * kk))) ho hg (by simp [execOp, hop, e1, r6_make' kk (by omega)]) ?_
    rw [hd]
    exact I6_alloc (i := 10) (Z3 (2 * kk)) hL (by omega) hI hb ⟨_, rfl, Blk.new _ _ _ _ hb.size⟩
  · -- 11
    have hop : o.op = .build 44 #[(0, .tmp 40), (1, .tmp 42), (2, .tmp 44), (3, .tmp 46), (4, .tmp 49)] := by have := h.op11; rw [ho] at this; simpa using this
    obtain ⟨b0, v0, k0⟩ := hI 1 (by omega) (h.dep' ho hdep (by simp))
    obtain ⟨b1, v1, k1⟩ := hI 3 (by omega) (h.dep' ho hdep (by simp))
    obtain ⟨b2, v2, k2⟩ := hI 5 (by omega) (h.dep' ho hdep (by simp))
    obtain ⟨b3, v3, k3⟩ := hI 7 (by omega) (h.dep' ho hdep (by simp))
    obtain ⟨b4, v4, k4⟩ := hI 10 (by omega) (h.dep' ho hdep (by simp))
    have e0 : (C6 a0 x).eval (.tmp 40) = sl b0 kk := (C6_eval a0 x 1 (by omega) hs).trans v0
    have e1 : (C6 a0 x).eval (.tmp 42) = sl b1 kk := (C6_eval a0 x 3 (by omega) hs).trans v1
    have e2 : (C6 a0 x).eval (.tmp 44) = sl b2 kk := (C6_eval a0 x 5 (by omega) hs).trans v2
    have e3 : (C6 a0 x).eval (.tmp 46) = sl b3 kk := (C6_eval a0 x 7 (by omega) hs).trans v3
    have e4 : (C6 a0 x).eval (.tmp 49) = sl b4 (2 * kk) := (C6_eval a0 x 10 (by omega) hs).trans v4
    refine wpOp_run (v := .agg (xobj b0 b1 b2 b3 b4 kk)) (w' := w) ho hg (by simp only [execOp, hop]; simp [e0, e1, e2, e3, e4, r6_build]) ?_
    rw [hd]
    exact I6_same hL (by omega) hI hb ⟨b0, b1, b2, b3, b4, rfl, k0, k1, k2, k3, k4⟩
  · -- 12
    have hop : o.op = .box 44 (.tmp 50) := by have := h.op12; rw [ho] at this; simpa using this
    obtain ⟨b0, b1, b2, b3, b4, v0, k0⟩ := hI 11 (by omega) (h.dep' ho hdep (by simp))
    have e0 : (C6 a0 x).eval (.tmp 50) = .agg (xobj b0 b1 b2 b3 b4 kk) := (C6_eval a0 x 11 (by omega) hs).trans v0
    refine wpOp_run (v := .pointer (some ⟨w.heap.size, 0, none⟩)) (w' := w.alloc (.cells (xobj b0 b1 b2 b3 b4 kk) 44 (0, 0))) ho hg (by simp only [execOp, hop]; simp [e0, r6_box]) ?_
    rw [hd]
    exact I6_alloc _ hL (by omega) hI hb ⟨_, b0, b1, b2, b3, b4, rfl, Blk.new _ _ _ _ hb.size, Five.mono k0 _ _⟩
  · -- 13
    have hop : o.op = .assign (.tmp 51) := by have := h.op13; rw [ho] at this; simpa using this
    refine wpOp_run ho hg (BigFrame.run_assign _ hop w) ?_
    rw [hd, show (C6 a0 x).eval (.tmp 51) = x 51 from C6_eval a0 x 12 (by omega) hs]
    exact I6_same hL (by omega) hI hb (hI 12 (by omega) (h.dep' ho hdep (by simp)))

end Go.Proofs.Ybulkawna
