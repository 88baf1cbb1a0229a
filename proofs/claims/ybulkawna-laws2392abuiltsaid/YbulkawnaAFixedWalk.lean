import Derived.Test.YbulkawnaAFixed
namespace Go.Proofs.Ybulkawna
open Go.RowKit
set_option linter.unusedVariables false

set_option maxHeartbeats 2000000 in
set_option maxRecDepth 100000 in
theorem a_fixed_built (p : Lay) (w : World) (h : Pre p w) :
    Calls Yba.prog 19 #[.pointer (some ⟨p.bg, 0, none⟩)] w fun e w' =>
      e = .returned (.slice (some ⟨w.heap.size, 0, none⟩) (2 * p.kk) (2 * p.kk)) ∧ Mid p w (z2 p.rl p.nm) w' := by
  have hP := hid h
  obtain ⟨bg, bp, bx, br, bu, bm, b0, b1, b2, b4, kk, nm, cm, sem, rl⟩ := p
  have hkk : (kk : Int) ≤ 1025 := by have := h.hkk; simp at this; omega
  have hk0 : 1 ≤ (kk : Int) := by have := h.hk0; simp at this; omega
  have hnm : (nm : Int) ≤ 1024 := by have := h.hnm; simp at this; omega
  have hg := h.hg
  have hlts : bg < w.heap.size := h.lts
  simp only at hg
  have c7 : w.cell? ⟨bg, 7, none⟩ = some (.slice none 0 0) := by simp [World.cell?, hg]
  have c1 : w.cell? ⟨bg, 1, none⟩ = some (.int .i64 sem) := by simp [World.cell?, hg]
  have c2 : w.cell? ⟨bg, 2, none⟩ = some (.pointer (some ⟨bx, 0, none⟩)) := by simp [World.cell?, hg]
  have f7 : w.frozen? ⟨bg, 7, none⟩ = false := by simp [World.frozen?, hg]
  have x0 : w.cell? ⟨bx, 0, none⟩ = _ := h.x0
  have x4 : w.cell? ⟨bx, 4, none⟩ = _ := h.x4
  simp only at x0 x4
  have hne := fun w => run_neq_slice_nil_any (P := Yba.prog) w 28 37 none 0 0 0 0 Yba.underlying28
  have hs : (sem == 2) = false := by have := h.hsem; simp at this; simp; omega
  have hmk : ∀ w, (Instr.makeSlice 28 (.int .i64 (2 * (kk : Int))) (.int .i64 (2 * (kk : Int)))).run Yba.prog w = .ok (.slice (some ⟨w.heap.size, 0, none⟩) (2 * kk) (2 * kk)) (w.alloc (.cells (madeCells (Value.int .i8 0).cells (2 * kk)) 37)) := by
    intro w
    have := make_row Yba.underlying28 k_info37 (by omega) (2 * (kk : Int)) (by omega) (by omega) w
    rwa [show (2 * (kk : Int)).toNat = 2 * kk from by omega] at this
  have M0 := hid (Mid.start h)
  have hbx : bx < w.heap.size := World.block_lt_of_cell? (a := ⟨bx, 0, none⟩) _ x0
  have q0 : ((w.setCell ⟨bg, 7, none⟩ (.slice (some ⟨w.heap.size, 0, none⟩) (2 * kk) (2 * kk))).alloc (.cells (madeCells #[.int .i8 0] (2 * kk)) 37)).cell? ⟨bx, 0, none⟩ = some (.slice (some ⟨b0, 0, none⟩) kk kk) := (M0.out.kept.cell bx 0 hbx h.ne.2.1).trans x0
  have y0 : ((w.alloc (.cells (madeCells (Value.int .i8 0).cells (2 * kk)) 37)).setCell ⟨bg, 7, none⟩ (.slice (some ⟨w.heap.size, 0, none⟩) (2 * kk) (2 * kk))).cell? ⟨bx, 0, none⟩ = some (.slice (some ⟨b0, 0, none⟩) kk kk) := by
    rw [World.cell?_setCell_other _ _ _ _ (by intro e; simp at e), World.cell?_alloc_past _ _ _ hbx]; exact x0
  clear h hg
  go_enter Yba.func19, Yba.ntmps19
  go_wp2
  go_loopw [46] (fun i wr => ∃ k : Nat, k ≤ kk ∧ i = .int .i64 k ∧ Mid ⟨bg, bp, bx, br, bu, bm, b0, b1, b2, b4, kk, nm, cm, sem, rl⟩ w (z1 k) wr) (fun i _ => kk - (intOf i).toNat)
  case atStart => exact ⟨0, Nat.zero_le _, rfl, M0.out⟩
  case round =>
    obtain ⟨k, hk, rfl, hmid⟩ := hrel
    have hold : ∀ b o v, w.cell? ⟨b, o, none⟩ = some v → b ≠ bg → wr.cell? ⟨b, o, none⟩ = some v := fun b o v hv hb => (hmid.kept.cell b o (World.block_lt_of_cell? (a := ⟨b, o, none⟩) _ hv) hb).trans hv
    by_cases hkl : k < kk
    · have hki : (k : Int) < kk := by omega
      have u0 : wr.cell? ⟨b0, k, none⟩ = some (.int .i64 k) := hold _ _ _ (hP.out.r0.cell k hkl) hP.out.ne.2.2.2.2.2.1
      have u1 : wr.cell? ⟨bx, 1, none⟩ = some (.slice (some ⟨b1, 0, none⟩) kk kk) := hold _ _ _ hP.out.x1 hP.out.ne.2.1
      have u2 : wr.cell? ⟨bx, 2, none⟩ = some (.slice (some ⟨b2, 0, none⟩) kk kk) := hold _ _ _ hP.out.x2 hP.out.ne.2.1
      have u3 : wr.cell? ⟨b1, k, none⟩ = some (.int .i64 k) := hold _ _ _ (hP.out.r1.cell k hkl) hP.out.ne.2.2.2.2.2.2.1
      have u4 : wr.cell? ⟨b2, k, none⟩ = some (.int .i64 (2 * (k : Int))) := hold _ _ _ (hP.out.r2.cell k hkl) hP.out.ne.2.2.2.2.2.2.2
      have E := hid (a_enabled bx b1 b2 kk k wr.drew hki hkk u1 u2 u3 u4)
      have g7 : wr.cell? ⟨bg, 7, none⟩ = some (.slice (some ⟨w.heap.size, 0, none⟩) (2 * kk) (2 * kk)) := hmid.g7
      have t1 : wr.cell? ⟨w.heap.size, 2 * k + 1, none⟩ = some (z1 k (2 * k + 1)) := hmid.row.cell _ (by show 2 * k + 1 < 2 * kk; omega)
      have t2 : wr.frozen? ⟨w.heap.size, 2 * k + 1, none⟩ = false := hmid.row.free _
      have tn : (2 * (k : Int) + 1).toNat = 2 * k + 1 := by omega
      have hm := hid hmid
      have ho := hid hold
      clear hmid hold
      go_wp2_with fail
      go_region_with (go_at_call 28; refine Calls.mono E.out ?_; rintro e w' ⟨rfl, rfl⟩)
      all_goals
        have M2 : Mid ⟨bg, bp, bx, br, bu, bm, b0, b1, b2, b4, kk, nm, cm, sem, rl⟩ w (z1 (k + 1)) (wr.setCell ⟨w.heap.size, 2 * k + 1, none⟩ (.int .i8 (-1))) := (hm.out.store hlts _ _).congr (fun j _ => z1_upd k j)
        have v0 : (wr.setCell ⟨w.heap.size, 2 * k + 1, none⟩ (.int .i8 (-1))).cell? ⟨bg, 0, none⟩ = some (.pointer (some ⟨bp, 0, none⟩)) := M2.g0
        have v1 : (wr.setCell ⟨w.heap.size, 2 * k + 1, none⟩ (.int .i8 (-1))).cell? ⟨bp, 2, none⟩ = some (.slice (some ⟨br, 0, none⟩) kk kk) := (M2.kept.cell bp 2 (World.block_lt_of_cell? (a := ⟨bp, 2, none⟩) _ hP.out.p2) hP.out.ne.1).trans hP.out.p2
        have v2 : (wr.setCell ⟨w.heap.size, 2 * k + 1, none⟩ (.int .i8 (-1))).cell? ⟨br, k * 7 + 6, none⟩ = some (.slice none 0 0) := (M2.kept.cell br (k * 7 + 6) (World.block_lt_of_cell? (a := ⟨br, k * 7 + 6, none⟩) _ (hP.out.rr k hkl)) hP.out.ne.2.2.1).trans (hP.out.rr k hkl)
        have hm2 := hid M2
        clear M2 u0 u1 u2 u3 u4 g7 t1 t2 tn
        go_wp2
        refine wp_loop_rounds 1 ?_
        rw [rounds_succ]
        go_wp2
        go_roundw
        case rel => exact ⟨k + 1, by omega, by go_num, hm2.out.drew⟩
        case measure => simp [intOf]; omega
    · obtain rfl : k = kk := by omega
      have hm : Hid (Mid ⟨bg, bp, bx, br, bu, bm, b0, b1, b2, b4, k, nm, cm, sem, rl⟩ w (z2 rl 0) wr) := hmid.congr (fun j hj => z2_start rl k j hj)
      have g0 : wr.cell? ⟨bg, 0, none⟩ = some (.pointer (some ⟨bp, 0, none⟩)) := hmid.g0
      have g3 : wr.cell? ⟨bg, 3, none⟩ = some (.int .i64 0) := hmid.g3
      have v1 : wr.cell? ⟨bp, 1, none⟩ = some (.slice (some ⟨bu, 0, none⟩) 1 1) := hold _ _ _ hP.out.p1 hP.out.ne.1
      have v2 : wr.cell? ⟨bu, 5, none⟩ = some (.slice (some ⟨bm, 0, none⟩) nm cm) := hold _ _ _ hP.out.uu hP.out.ne.2.2.2.1
      clear hmid hold hkl
      go_wp2
      go_quiet (fail)
      go_wp2
      have hm0 := hm.out.drewN nq
      go_loopw [108] (fun i wq => ∃ j : Nat, j ≤ nm ∧ i = .int .i64 j ∧ Mid ⟨bg, bp, bx, br, bu, bm, b0, b1, b2, b4, k, nm, cm, sem, rl⟩ w (z2 rl j) wq) (fun i _ => nm - (intOf i).toNat)
      case atStart => exact ⟨0, Nat.zero_le _, rfl, hm0⟩
      case round =>
        clear hm hm0 g0 g3 v1 v2 M0 q0 y0 hmk hne
        obtain ⟨j, hj, rfl, hmid⟩ := hrel
        have hold : ∀ b o v, w.cell? ⟨b, o, none⟩ = some v → b ≠ bg → wr.cell? ⟨b, o, none⟩ = some v := fun b o v hv hb => (hmid.kept.cell b o (World.block_lt_of_cell? (a := ⟨b, o, none⟩) _ hv) hb).trans hv
        have g7 : wr.cell? ⟨bg, 7, none⟩ = some (.slice (some ⟨w.heap.size, 0, none⟩) (2 * k) (2 * k)) := hmid.g7
        by_cases hjl : j < nm
        · have hji : (j : Int) < nm := by omega
          have hrl : rl j < k := hP.out.ml j hjl
          have hri : (rl j : Int) < k := by omega
          have mm := hP.out.mm j hjl
          have m0 : wr.cell? ⟨bm, j * 4, none⟩ = some (.int .i64 (rl j)) := hold _ _ _ mm.1 hP.out.ne.2.2.2.2.1
          have m1 : wr.cell? ⟨bm, j * 4 + 1, none⟩ = some (.int .i64 0) := hold _ _ _ mm.2.1 hP.out.ne.2.2.2.2.1
          have m2 : wr.cell? ⟨bm, j * 4 + 2, none⟩ = some (.slice none 0 0) := hold _ _ _ mm.2.2.1 hP.out.ne.2.2.2.2.1
          have m3 : wr.cell? ⟨bm, j * 4 + 3, none⟩ = some (.slice none 0 0) := hold _ _ _ mm.2.2.2 hP.out.ne.2.2.2.2.1
          have u1 : wr.cell? ⟨bx, 1, none⟩ = some (.slice (some ⟨b1, 0, none⟩) k k) := hold _ _ _ hP.out.x1 hP.out.ne.2.1
          have u2 : wr.cell? ⟨bx, 2, none⟩ = some (.slice (some ⟨b2, 0, none⟩) k k) := hold _ _ _ hP.out.x2 hP.out.ne.2.1
          have u3 : wr.cell? ⟨b1, rl j, none⟩ = some (.int .i64 (rl j)) := hold _ _ _ (hP.out.r1.cell _ hrl) hP.out.ne.2.2.2.2.2.2.1
          have u4 : wr.cell? ⟨b2, rl j, none⟩ = some (.int .i64 (2 * (rl j : Int))) := hold _ _ _ (hP.out.r2.cell _ hrl) hP.out.ne.2.2.2.2.2.2.2
          have sz := hmid.kept.size
          have t1 : wr.cell? ⟨w.heap.size, 2 * rl j, none⟩ = some (z2 rl j (2 * rl j)) := hmid.row.cell _ (by show 2 * rl j < 2 * k; omega)
          have t2 : wr.frozen? ⟨w.heap.size, 2 * rl j, none⟩ = false := hmid.row.free _
          have tn : (2 * (rl j : Int)).toNat = 2 * rl j := by omega
          have hm := hid hmid
          clear hmid hold mm
          have l1 : bx < wr.heap.size := World.block_lt_of_cell? (a := ⟨bx, 1, none⟩) _ u1
          have l2 : b1 < wr.heap.size := World.block_lt_of_cell? (a := ⟨b1, rl j, none⟩) _ u3
          have l3 : b2 < wr.heap.size := World.block_lt_of_cell? (a := ⟨b2, rl j, none⟩) _ u4
          have l4 : bg < wr.heap.size := by omega
          have l5 : w.heap.size < wr.heap.size := World.block_lt_of_cell? (a := ⟨w.heap.size, 2 * rl j, none⟩) _ t1
          have l6 : bm < wr.heap.size := World.block_lt_of_cell? (a := ⟨bm, j * 4, none⟩) _ m0
          go_wp2_with fail
          refine (a_member bx b1 b2 k (rl j) _ hri hkk ?a1 ?a2 ?a3 ?a4).mono ?_
          case a1 => simpa [go_sem, l1] using u1
          case a2 => simpa [go_sem, l1] using u2
          case a3 => simpa [go_sem, l2] using u3
          case a4 => simpa [go_sem, l3] using u4
          rintro e w1 ⟨rfl, rfl⟩
          go_wp2
          go_roundw
          case rel => exact ⟨j + 1, by omega, by go_num, ((hm.out.store hlts _ _).congr (fun i _ => z2_upd rl j i)).alloc _⟩
          case measure => simp [intOf]; omega
        · obtain rfl : j = nm := by omega
          have hm := hid hmid
          clear hmid hold
          go_wp2
          go_ret
          exact ⟨rfl, hm.out⟩

end Go.Proofs.Ybulkawna
