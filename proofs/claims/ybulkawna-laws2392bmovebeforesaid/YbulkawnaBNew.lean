import Derived.Test.YbulkawnaBNewLay
namespace Go.Proofs.Ybulkawna
open Go.RowKit B
set_option linter.unusedVariables false

set_option maxHeartbeats 4000000 in
set_option maxRecDepth 100000 in
theorem b_new (w : World) (n : Nat) (hn : 2 ≤ n ∧ n ≤ 201) : Calls Yba.prog 12 #[.int .i64 (n : Int)] w fun e w' =>
    ∃ bl bn bp s, e = .returned (.agg #[bsl bl n, bsl bn n, bsl bp n, .slice none 0 0, bsl bl n]) ∧ (bl ≠ bn ∧ bl ≠ bp ∧ bn ≠ bp) ∧ (w.heap.size ≤ bl ∧ w.heap.size ≤ bn ∧ w.heap.size ≤ bp)
      ∧ Row w' bl 94 (n + 1) (u64v s.lab) ∧ Row w' bn 3 (n + 1) (i64v s.nxt) ∧ Row w' bp 3 (n + 1) (i64v s.prv) ∧ Fine n (List.range n) s ∧ Below w.heap.size w w' := by
  have hn2 := hn.2
  have h1 := bm_45 n hn.2
  have h2 := bm_31 n hn.2
  go_enter Yba.func12, Yba.ntmps12
  go_upto_region 1 with fail
  go_cut [3] (fun p wx => ∃ b bl bn bp, p = .pointer (some ⟨b, 0, none⟩) ∧ L12 w n b bl bn bp wx)
  case first =>
    go_region
    all_goals
      go_wp2_with fail
      go_meet
      first
      | exact lay12 w n 1 2 3 4 (by decide)
      | exact lay12 w n 1 2 4 3 (by decide)
      | exact lay12 w n 1 3 2 4 (by decide)
      | exact lay12 w n 1 3 4 2 (by decide)
      | exact lay12 w n 1 4 2 3 (by decide)
      | exact lay12 w n 1 4 3 2 (by decide)
      | exact lay12 w n 2 1 3 4 (by decide)
      | exact lay12 w n 2 1 4 3 (by decide)
      | exact lay12 w n 2 3 1 4 (by decide)
      | exact lay12 w n 2 3 4 1 (by decide)
      | exact lay12 w n 2 4 1 3 (by decide)
      | exact lay12 w n 2 4 3 1 (by decide)
      | exact lay12 w n 3 1 2 4 (by decide)
      | exact lay12 w n 3 1 4 2 (by decide)
      | exact lay12 w n 3 2 1 4 (by decide)
      | exact lay12 w n 3 2 4 1 (by decide)
      | exact lay12 w n 3 4 1 2 (by decide)
      | exact lay12 w n 3 4 2 1 (by decide)
      | exact lay12 w n 4 1 2 3 (by decide)
      | exact lay12 w n 4 1 3 2 (by decide)
      | exact lay12 w n 4 2 1 3 (by decide)
      | exact lay12 w n 4 2 3 1 (by decide)
      | exact lay12 w n 4 3 1 2 (by decide)
      | exact lay12 w n 4 3 2 1 (by decide)
  case rest =>
    clear h1 h2
    obtain ⟨b, bl, bn, bp, rfl, L⟩ := hcut
    have h3 := bm_31' n hn.2
    obtain ⟨ok, M0⟩ := L.om hn
    obtain ⟨ne1, ne2, ne3, ne4, ne5, ne6⟩ := L.ne
    obtain ⟨ge0, ge1, ge2, ge3⟩ := L.ge
    have c0 : wc.cell? ⟨b, 0, none⟩ = some (bsl bl n) := by have := L.hb; simp [World.cell?, this]
    have c4 : wc.cell? ⟨b, 4, none⟩ = some (.slice none 0 0) := by have := L.hb; simp [World.cell?, this]
    have f4 : ∀ i, wc.frozen? ⟨b, i, none⟩ = false := by intro i; have := L.hb; simp [World.frozen?, this]
    unfold bsl at c0 M0
    have hb0 : (wc.setCell ⟨b, 4, none⟩ (.slice (some ⟨bl, 0, none⟩) (n + 1) (n + 1))).heap[w.heap.size]? = some Z75 := (Below.heap_setCell _ _ _ _ (by simp; omega)).trans L.h2
    have hbb : Below w.heap.size w (wc.setCell ⟨b, 4, none⟩ (.slice (some ⟨bl, 0, none⟩) (n + 1) (n + 1))) := L.below.setCell (by simp; omega) _
    generalize hw1 : wc.setCell ⟨b, 4, none⟩ (.slice (some ⟨bl, 0, none⟩) (n + 1) (n + 1)) = w1 at *
    have M1 : OM ⟨b, bl, bn, bp, n⟩ ⟨fun _ => 0, fun _ => 0, fun _ => 0⟩ (w1.alloc (.cells (madeCells #[.int .i64 0] n) 3)) :=
      ⟨(Below.heap_alloc _ _ _ (lt_of_block M0.hb)).trans M0.hb, M0.rl.alloc _, M0.rn.alloc _, M0.rp.alloc _⟩
    have hb1 : (w1.alloc (.cells (madeCells #[.int .i64 0] n) 3)).heap[w.heap.size]? = some Z75 := (Below.heap_alloc _ _ _ (lt_of_block hb0)).trans hb0
    have hbb1 : Below w.heap.size w (w1.alloc (.cells (madeCells #[.int .i64 0] n) 3)) := hbb.alloc hbb.size _
    have R1 : Row (w1.alloc (.cells (madeCells #[.int .i64 0] n) 3)) w1.heap.size 3 n (fun _ => .int .i64 0) := Row.made w1 (.int .i64 0) rfl n 3
    have lb : b < w1.heap.size := lt_of_block M0.hb
    have ll := M0.rl.lt
    have ln := M0.rn.lt
    have lp := M0.rp.lt
    have l2 := lt_of_block hb0
    simp only at ll ln lp
    have HM := bhid M1
    have HB := bhid hb1
    have HBB := bhid hbb1
    have HR := bhid R1
    clear M0 M1 hb0 hbb hb1 hbb1 R1 L
    go_wp2_with fail
    clear hw1 c0 c4 f4 h3
    generalize hbo : w1.heap.size = bo at *
    generalize w1.alloc (.cells (madeCells #[.int .i64 0] n) 3) = w2 at *
    go_loopw [24] (fun i wr => ∃ (k : Nat) (f : Nat → Value), k ≤ n ∧ i = .int .i64 k ∧ Hid (OM ⟨b, bl, bn, bp, n⟩ ⟨fun _ => 0, fun _ => 0, fun _ => 0⟩ wr) ∧ Hid (wr.heap[w.heap.size]? = some Z75) ∧ Hid (Below w.heap.size w wr) ∧ Hid (Row wr bo 3 n f) ∧ Hid (∀ j : Nat, j < k → f j = .int .i64 (j : Int))) (fun i _ => n - (intOf i).toNat)
    case atStart => exact ⟨0, _, Nat.zero_le _, rfl, HM, HB, HBB, HR, fun j hj => absurd hj (Nat.not_lt_zero _)⟩
    case round =>
      clear HM HB HBB HR
      obtain ⟨k, f, hk, rfl, M, B, BB, R, hf⟩ := hrel
      by_cases hkn : k < n
      · have hki : (k : Int) < n := by omega
        have y0 := R.out.cell k hkn
        have fr := R.out.free
        have M' := bhid (p := OM ⟨b, bl, bn, bp, n⟩ ⟨fun _ => 0, fun _ => 0, fun _ => 0⟩ (wr.setCell ⟨bo, k, none⟩ (.int .i64 (k : Int)))) ⟨(Below.heap_setCell _ _ _ _ (by simp; omega)).trans M.out.hb, M.out.rl.other _ _ (by simp; omega), M.out.rn.other _ _ (by simp; omega), M.out.rp.other _ _ (by simp; omega)⟩
        have B' := bhid ((Below.heap_setCell wr ⟨bo, k, none⟩ (.int .i64 (k : Int)) w.heap.size (by simp; omega)).trans B.out)
        have BB' := bhid (BB.out.setCell (p := ⟨bo, k, none⟩) (by simp; omega) (.int .i64 (k : Int)))
        have R' := bhid (R.out.set k (.int .i64 (k : Int)))
        have hf' : Hid (∀ j : Nat, j < k + 1 → upd f k (.int .i64 (k : Int)) j = .int .i64 (j : Int)) := by
          intro j hj
          by_cases e : j = k
          · rw [e, upd_same]
          · rw [upd_other _ _ _ _ e]; exact hf.out j (by omega)
        clear M B BB R hf
        go_wp2
        go_roundw
        case rel => exact ⟨k + 1, _, by omega, by go_num, M', B', BB', R', hf'⟩
        case measure => simp [intOf]; omega
      · obtain rfl : k = n := by omega
        have hat : RunAt wr bo (List.range k) := by
          intro i v hv
          obtain ⟨hi, e⟩ := List.getElem?_eq_some_iff.1 hv
          simp at hi e
          subst e
          rw [R.out.cell i hi, hf.out i hi]
        have X := b_lay ⟨b, bl, bn, bp, k⟩ ⟨fun _ => 0, fun _ => 0, fun _ => 0⟩ wr ok M.out (List.range k) bo k rfl List.nodup_range (by simp) (by simp) hat ⟨by simp; omega, by simp; omega, by simp; omega⟩
        rw [List.length_range] at X
        have XX := bhid X
        clear X hat hf R
        go_wp2_with fail
        refine Calls.mono XX.out ?_
        rintro e w3 ⟨rfl, s', M3, F3, K3'⟩
        have d0 : w3.cell? ⟨b, 0, none⟩ = some (.slice (some ⟨bl, 0, none⟩) (k + 1) (k + 1)) := by have := M3.hb; simp only at this; simp [World.cell?, this]
        have d1 : w3.cell? ⟨b, 1, none⟩ = some (.slice (some ⟨bn, 0, none⟩) (k + 1) (k + 1)) := by have := M3.hb; simp only at this; simp [World.cell?, this]
        have d2 : w3.cell? ⟨b, 2, none⟩ = some (.slice (some ⟨bp, 0, none⟩) (k + 1) (k + 1)) := by have := M3.hb; simp only at this; simp [World.cell?, this]
        have d3 : w3.cell? ⟨b, 3, none⟩ = some (.slice none 0 0) := by have := M3.hb; simp only at this; simp [World.cell?, this]
        have d4 : w3.cell? ⟨b, 4, none⟩ = some (.slice (some ⟨bl, 0, none⟩) (k + 1) (k + 1)) := by have := M3.hb; simp only at this; simp [World.cell?, this]
        have hz : w3.heap[w.heap.size]? = some Z75 := (K3'.block w.heap.size (lt_of_block B.out) (by simp; omega) (by simp; omega) (by simp; omega)).trans B.out
        have z0 : ∀ i, i < 5 → w3.cell? ⟨w.heap.size, i, none⟩ = some (.slice none 0 0) := by
          intro i hi
          have : i = 0 ∨ i = 1 ∨ i = 2 ∨ i = 3 ∨ i = 4 := by omega
          rcases this with rfl | rfl | rfl | rfl | rfl <;> simp [World.cell?, hz, Z75]
        have y0 := z0 0 (by omega)
        have y1 := z0 1 (by omega)
        have y2 := z0 2 (by omega)
        have y3 := z0 3 (by omega)
        have y4 := z0 4 (by omega)
        have fr : ∀ i, w3.frozen? ⟨w.heap.size, i, none⟩ = false := by intro i; simp [World.frozen?, hz, Z75]
        have HB3 := bhid (BB.out.trans (K3'.below (N := w.heap.size) BB.out.size (by simp; omega) (by simp; omega) (by simp; omega)))
        have HM3 := bhid M3
        have HF3 := bhid F3
        have HZ := bhid hz
        clear z0 hz M3 F3 K3' XX BB B M
        go_wp2_with fail
        have hgg := heap_set_same (j := 4) (v := bsl bl k) (heap_set_same (j := 3) (v := .slice none 0 0) (heap_set_same (j := 2) (v := bsl bp k) (heap_set_same (j := 1) (v := bsl bn k) (heap_set_same (j := 0) (v := bsl bl k) HZ.out))))
        simp only [List.setIfInBounds_toArray, List.set_cons_zero, List.set_cons_succ] at hgg
        (try simp only [Exit.inBlock, Exit.then])
        refine bodyPost_ret (results_cell_row rfl _ _ w.heap.size 75 #[bsl bl k, bsl bn k, bsl bp k, .slice none 0 0, bsl bl k] (0, 0) _ rfl hgg Yba.underlying75 rfl (by kernel_rfl)) rfl ?_
        have HB5 := ((((HB3.out.setCell (p := ⟨w.heap.size, 0, none⟩) (Nat.le_refl _) (bsl bl k)).setCell (p := ⟨w.heap.size, 1, none⟩) (Nat.le_refl _) (bsl bn k)).setCell (p := ⟨w.heap.size, 2, none⟩) (Nat.le_refl _) (bsl bp k)).setCell (p := ⟨w.heap.size, 3, none⟩) (Nat.le_refl _) (.slice none 0 0)).setCell (p := ⟨w.heap.size, 4, none⟩) (Nat.le_refl _) (bsl bl k)
        have RR : ∀ (x : Nat) (t : TypeId) (g : Nat → Value), w.heap.size < x → Row w3 x t (k + 1) g → Row (((((w3.setCell ⟨w.heap.size, 0, none⟩ (bsl bl k)).setCell ⟨w.heap.size, 1, none⟩ (bsl bn k)).setCell ⟨w.heap.size, 2, none⟩ (bsl bp k)).setCell ⟨w.heap.size, 3, none⟩ (.slice none 0 0)).setCell ⟨w.heap.size, 4, none⟩ (bsl bl k)) x t (k + 1) g := by
          intro x t g hx hr
          exact ((((hr.other _ _ (by simp; omega)).other _ _ (by simp; omega)).other _ _ (by simp; omega)).other _ _ (by simp; omega)).other _ _ (by simp; omega)
        exact ⟨bl, bn, bp, s', rfl, ⟨ne4, ne5, ne6⟩, ⟨by omega, by omega, by omega⟩, RR _ _ _ ge1 HM3.out.rl, RR _ _ _ ge2 HM3.out.rn, RR _ _ _ ge3 HM3.out.rp, HF3.out, HB5⟩

end Go.Proofs.Ybulkawna
