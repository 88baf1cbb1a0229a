import Derived.Test.YbulkawnaABuiltEnv
import Derived.Test.YbulkawnaRegion6c
namespace Go.Proofs.Ybulkawna
open Go.RowKit
set_option linter.unusedVariables false

set_option maxHeartbeats 4000000 in
set_option maxRecDepth 100000 in
theorem a_built (ao1 ao2 : Option Addr) (l1 c1 l2 c2 : Nat) (mv : Nat → Int) (hh : Nat → Bool) (k : Int) (wk : Bool) (w : World) (hk : 0 ≤ k) (hk' : k ≤ 65535) (hmv : ∀ j, 0 ≤ mv j ∧ mv j ≤ 65535)
    (hl1 : (l1 : Int) ≤ 1024) (hl2 : (l2 : Int) ≤ 4096) (H1 : Came w.heap.size ao1 l1 (fun j => .int .u16 (mv j)) w) (H2 : Came w.heap.size ao2 l2 (fun j => .bool (hh j)) w) :
    Calls Yba.prog 5 #[.int .u16 k, .slice ao1 l1 c1, .slice ao2 l2 c2, .bool wk] w fun e w' => e = .returned (.bool true) ∧ Below w.heap.size w w' := by
  have X1 := hid H1
  have HMV := hid hmv
  clear hmv
  have X2 := hid H2
  clear H1 H2
  go_enter Yba.func5, Yba.ntmps5
  go_upto_if 38 with fail
  go_cut [9] (fun s9 wx => ∃ n : Nat, 1 ≤ n ∧ n ≤ 1024 ∧ s9 = .int .i64 n ∧ w = wx)
  case first =>
    go_wp2
    · go_meet
      case rel => exact ⟨1, by omega, by omega, rfl, rfl⟩
    · go_meet
      case rel => exact ⟨(k % 1025).toNat, by simp at *; omega, by omega, by rw [Int.toNat_of_nonneg (by omega)], rfl⟩
  case rest =>
    obtain ⟨kk, hkk0, hkk1, rfl, hwc⟩ := hcut
    subst hwc
    have hk1 : (kk : Int) ≤ 1024 := by omega
    have hk0 : 1 ≤ (kk : Int) := by omega
    have mk3 : ∀ w, (Instr.makeSlice 31 (.int .i64 (kk : Int)) (.int .i64 (kk : Int))).run Yba.prog w = .ok (.slice (some ⟨w.heap.size, 0, none⟩) kk kk) (w.alloc (.cells (madeCells #[.int .i64 0] kk) 3)) := by
      intro w
      have := make_row Yba.underlying31 k_info3 (by omega) (kk : Int) (by omega) (by omega) w
      rwa [Int.toNat_natCast] at this
    have mk32 : ∀ w, (Instr.makeSlice 31 (.int .i64 (2 * (kk : Int))) (.int .i64 (2 * (kk : Int)))).run Yba.prog w = .ok (.slice (some ⟨w.heap.size, 0, none⟩) (2 * kk) (2 * kk)) (w.alloc (.cells (madeCells #[.int .i64 0] (2 * kk)) 3)) := by
      intro w
      have := make_row Yba.underlying31 k_info3 (by omega) (2 * (kk : Int)) (by omega) (by omega) w
      rwa [show (2 * (kk : Int)).toNat = 2 * kk from by omega] at this
    have mk42 : ∀ w, (Instr.makeSlice 42 (.int .i64 (kk : Int)) (.int .i64 (kk : Int))).run Yba.prog w = .ok (.slice (some ⟨w.heap.size, 0, none⟩) kk kk) (w.alloc (.cells (madeCells #[.slice none 0 0] kk) 31)) := by
      intro w
      have := make_row Yba.underlying42 k_info31 (by omega) (kk : Int) (by omega) (by omega) w
      rwa [Int.toNat_natCast] at this
    go_upto_region 6 with fail
    go_cut [10] (fun s10 wx => Laid6 w kk s10 wx)
    case first =>
      clear X1 X2 HMV
      refine region6 ?oo _ w kk ?ss ?nn (by omega) ?_
      case oo => exact ⟨rfl, by kernel_rfl, by kernel_rfl, rfl, rfl, rfl, rfl, rfl, rfl, rfl, rfl, rfl, rfl, rfl, rfl, rfl, rfl⟩
      case ss => rfl
      case nn => rfl
      intro x wx hl
      unfold P6
      generalize x 10 = y10 at hl ⊢
      generalize x 39 = y39
      generalize x 40 = y40
      generalize x 41 = y41
      generalize x 42 = y42
      generalize x 43 = y43
      generalize x 44 = y44
      generalize x 45 = y45
      generalize x 46 = y46
      generalize x 47 = y47
      generalize x 48 = y48
      generalize x 49 = y49
      generalize x 50 = y50
      generalize x 51 = y51
      have HL := hid hl
      clear hl
      simp only [Act.put, List.setIfInBounds_toArray, List.set_cons_succ, List.set_cons_zero]
      go_wp2_with fail
      go_meet
      case rel => exact HL.out
    case rest =>
      obtain ⟨q, rfl, rfl, ok, hxs⟩ := xs_of_laid hcut
      obtain ⟨bx, b0, b1, b2, b3, b4, kk⟩ := q
      simp only at *
      clear hcut mk3 mk32 mk42
      have OK := hid ok
      clear ok
      go_wp2_with fail
      go_loopw [11] (fun i wr => ∃ j : Nat, j ≤ kk ∧ i = .int .i64 j ∧ XS ⟨bx, b0, b1, b2, b3, b4, kk⟩ w (idx j) (idx j) (dbl j) (idx 0) wr) (fun i _ => kk - (intOf i).toNat)
      case atStart => exact ⟨0, Nat.zero_le _, rfl, hxs⟩
      case round =>
        clear hxs
        obtain ⟨j, hj, rfl, hx⟩ := hrel
        by_cases hjl : j < kk
        · have hji : (j : Int) < kk := by omega
          have A1 := hx.set0 OK.out j (.int .i64 j)
          have A2 := A1.set1 OK.out j (.int .i64 j)
          have A3 := A2.set2 OK.out j (.int .i64 (2 * (j : Int)))
          have y0 : wr.cell? ⟨bx, 0, none⟩ = some (.slice (some ⟨b0, 0, none⟩) kk kk) := hx.x0
          have y1 : wr.cell? ⟨b0, j, none⟩ = some (idx j j) := hx.r0.cell j hjl
          have y2 : wr.frozen? ⟨b0, j, none⟩ = false := hx.r0.free j
          have z0 : (wr.setCell ⟨b0, j, none⟩ (.int .i64 j)).cell? ⟨bx, 1, none⟩ = some (.slice (some ⟨b1, 0, none⟩) kk kk) := A1.x1
          have z1 : (wr.setCell ⟨b0, j, none⟩ (.int .i64 j)).cell? ⟨b1, j, none⟩ = some (idx j j) := A1.r1.cell j hjl
          have z2 : wr.frozen? ⟨b1, j, none⟩ = false := hx.r1.free j
          have v0 : ((wr.setCell ⟨b0, j, none⟩ (.int .i64 j)).setCell ⟨b1, j, none⟩ (.int .i64 j)).cell? ⟨bx, 2, none⟩ = some (.slice (some ⟨b2, 0, none⟩) kk kk) := A2.x2
          have v1 : ((wr.setCell ⟨b0, j, none⟩ (.int .i64 j)).setCell ⟨b1, j, none⟩ (.int .i64 j)).cell? ⟨b2, j, none⟩ = some (dbl j j) := A2.r2.cell j hjl
          have v2 : wr.frozen? ⟨b2, j, none⟩ = false := hx.r2.free j
          have B := hid (A3.congr (fun i _ => idx_upd j i) (fun i _ => idx_upd j i) (fun i _ => dbl_upd j i) (fun i _ => rfl))
          clear A1 A2 A3 hx
          go_wp2
          go_roundw
          case rel => exact ⟨j + 1, by omega, by go_num, B.out⟩
          case measure => simp [intOf]; omega
        · obtain rfl : kk = j := by omega
          have HX := hid hx
          clear hx hjl hj
          go_wp2_with fail
          go_loopw [12] (fun i wr => ∃ j : Nat, j ≤ 2 * kk ∧ i = .int .i64 j ∧ XS ⟨bx, b0, b1, b2, b3, b4, kk⟩ w (idx kk) (idx kk) (dbl kk) (idx j) wr) (fun i _ => 2 * kk - (intOf i).toNat)
          case atStart => exact ⟨0, Nat.zero_le _, rfl, HX.out⟩
          case round =>
            clear HX
            obtain ⟨j, hj, rfl, hx⟩ := hrel
            by_cases hjl : j < 2 * kk
            · have hji : (j : Int) < 2 * kk := by omega
              have A1 := hx.set4 OK.out j (.int .i64 j)
              have y0 : wr.cell? ⟨bx, 4, none⟩ = some (.slice (some ⟨b4, 0, none⟩) (2 * kk) (2 * kk)) := hx.x4
              have y1 : wr.cell? ⟨b4, j, none⟩ = some (idx j j) := hx.r4.cell j hjl
              have y2 : wr.frozen? ⟨b4, j, none⟩ = false := hx.r4.free j
              have B := hid (A1.congr (fun i _ => rfl) (fun i _ => rfl) (fun i _ => rfl) (fun i _ => idx_upd j i))
              clear A1 hx
              go_wp2
              go_roundw
              case rel => exact ⟨j + 1, by omega, by go_num, B.out⟩
              case measure => simp [intOf]; omega
            · obtain rfl : j = 2 * kk := by omega
              have HX := hid hx
              clear hx hjl hj
              obtain ⟨cs, hcs, hms⟩ := make_ms l1 (by omega)
              have mk22 : ∀ w, (Instr.makeSlice 22 (.int .i64 (kk : Int)) (.int .i64 (kk : Int))).run Yba.prog w = .ok (.slice (some ⟨w.heap.size, 0, none⟩) kk kk) (w.alloc (.cells (madeCells #[.bool false] kk) 4)) := by
                intro w
                have := make_row Yba.underlying22 k_info4 (by omega) (kk : Int) (by omega) (by omega) w
                rwa [Int.toNat_natCast] at this
              obtain ⟨rl, hrl⟩ : ∃ rl : Nat → Nat, ∀ j, (rl j : Int) = mv j % kk := ⟨fun j => (mv j % kk).toNat, fun j => Int.toNat_of_nonneg (Int.emod_nonneg _ (by omega))⟩
              have HRL := hid hrl
              clear hrl
              have HM : Hid (MS ⟨bx, b0, b1, b2, b3, b4, kk⟩ w wr.heap.size rl l1 0 _) := MS.start HX.out (by omega) hcs
              have HCS := hid hcs
              clear hcs
              go_wp2_with fail
              obtain ⟨M, hM⟩ : ∃ M, M = wr.heap.size := ⟨_, rfl⟩
              rw [← hM] at HM ⊢
              have HHM := hid hM
              clear hM
              go_loopw [14, 99] (fun v i wr => ∃ j : Nat, j ≤ l1 ∧ i = .int .i64 j ∧ v = .slice (some ⟨M + 1, 0, none⟩) j l1 ∧ MS ⟨bx, b0, b1, b2, b3, b4, kk⟩ w M rl l1 j wr) (fun _ i _ => l1 - (intOf i).toNat)
              case atStart => exact ⟨0, Nat.zero_le _, rfl, rfl, HM.out⟩
              case round =>
                clear HM HX hms mk22 HCS HHM
                obtain ⟨j, hj, rfl, rfl, hms⟩ := hrel
                by_cases hjl : j < l1
                · have hji : (j : Int) < l1 := by omega
                  obtain ⟨eb, eo, q1, q2, q3⟩ := X1.out.below hms.x.bel (Nat.le_refl _) j hjl
                  subst q1
                  obtain ⟨m0, m1⟩ := HMV.out j
                  have hr' : mv j % (kk : Int) = (rl j : Int) := (HRL.out j).symm
                  have hrk : (rl j : Int) < kk := by rw [← hr']; exact Int.emod_lt_of_pos _ (by omega)
                  have t1 : wr.cell? ⟨M, rl j, none⟩ = some (.bool (memb rl j (rl j))) := hms.mem.cell (rl j) (by show rl j < kk; omega)
                  have t2 : wr.frozen? ⟨M, rl j, none⟩ = false := hms.mem.free (rl j)
                  have hMlt : M < wr.heap.size := hms.mem.lt
                  have HS := hid hms
                  clear hms
                  obtain ⟨i0, hi, hz0, hz1, hz2⟩ := info_parts k_info52
                  go_wp2_with (at_builtin; refine wpList_append_fits _ rfl (.tmp 110) (.tmp 113) 27 rfl (M + 1) 52 i0 4 Yba.underlying27 hi hz1 (M + 1) j l1 _ rfl ((ownsRow_setCell_below HS.out.own (by show M < M + 1; omega) _).alloc _) ⟨wr.heap.size, 0, none⟩ 1 1 [.int .i64 (rl j), .int .i64 0, .slice none 0 0, .slice none 0 0] rfl rfl ?c1 ?c2 ?c3 ?_)
                  case c2 => exact ⟨rfl, rfl, rfl⟩
                  case c3 => omega
                  intro w1 hown hg
                  have HN := hid (HS.out.step hown hg)
                  clear hown hg t1 t2 q3
                  go_wp2
                  go_roundw
                  case rel => exact ⟨j + 1, by omega, by go_num, rfl, HN.out⟩
                  case measure => simp [intOf]; omega
                · obtain rfl : l1 = j := by omega
                  have HS := hid hms
                  clear hms
                  obtain ⟨rs, hrs, hmr⟩ := make_roles kk (by omega)
                  have HRS := hid hrs
                  clear hrs
                  cases wk
                  all_goals
                    go_wp2_with fail
                    refine (a_mkholds (wr.heap.size + 1 + 1 + 1 + 1) l2 c2 ao2 _).mono ?_
                    rintro e w' ⟨rfl, rfl⟩
                    have HRK : ∀ j, rl j < kk := fun j => by
                      have h1 := HRL.out j
                      have h2 : mv j % (kk : Int) < kk := Int.emod_lt_of_pos _ (by omega)
                      omega
                    have HPR := hid (fun sem hsem => pre_built ⟨bx, b0, b1, b2, b3, b4, kk⟩ w wr M rl l1 sem rs HS.out OK.out hkk0 hkk1 (by omega) hsem HRK HRS.out #[.string ⟨#[]⟩, .bool false, .int .i64 0, .slice none 0 0, .slice none 0 0, .slice (some ⟨M + 1, 0, none⟩) l1 l1] #[.int .i64 0, .slice (some ⟨wr.heap.size + 1, 0, none⟩) 1 1, .slice (some ⟨wr.heap.size, 0, none⟩) kk kk, .slice none 0 0, .slice none 0 0, .pointer none, .slice none 0 0, .slice none 0 0, .slice none 0 0, .slice none 0 0, .int .i64 0, .pointer none, .bool false, .map none, .map none, .map none, .map none] rfl rfl rfl)
                    clear HRK
                    go_wp2_with fail
                    refine (a_reading_built _ _ _ _ _ ((((HPR.out _ (by omega)).alloc _).alloc _).alloc _)).mono ?_
                    rintro e wF ⟨rfl, hmid⟩
                    obtain ⟨E1, E2, E3, E4, E5, E6⟩ := env_built ⟨bx, b0, b1, b2, b3, b4, kk⟩ w wr M rl l1 _ rs _ _ _ HS.out hkk1 ao2 l2 c2 hh (by omega) X2.out _ wF (by rfl) hmid
                    have G1 := hid E1
                    have G2 := hid E2
                    have G3 := hid E3
                    have G6 := hid E6
                    clear E1 E2 E3 E6 hmid HPR
                    go_wp2_with fail
                    have E7 : w.heap.size ≤ M := HS.out.wlt
                    clear HS HRS hmr HRL HMV
                    obtain ⟨N, hN⟩ : ∃ N, wr.heap.size = N := ⟨_, rfl⟩
                    obtain ⟨B, hB⟩ : ∃ B, wF.heap.size = B := ⟨_, rfl⟩
                    rw [hN] at G1 G2 E5 ⊢
                    rw [hB] at G1 G2 E4
                    clear hN hB
                    go_loopw [23, 24] (fun c i wy => ∃ j : Nat, j ≤ 2 * kk ∧ i = .int .i64 j ∧ c = .int .i64 ((logOf (zz rl l1) j).length : Int) ∧ Env (b_places N B kk rl l1 ao2 l2 c2 hh) wy ∧ Log (N + 1 + 1 + 1 + 1) B (logOf (zz rl l1) j) wy ∧ Row wy M 4 kk (fun r => .bool (memb rl l1 r)) ∧ Below w.heap.size w wy)
                      (fun _ i _ => 2 * kk - (intOf i).toNat)
                    case atStart => exact ⟨0, Nat.zero_le _, rfl, rfl, G1.out, G2.out, G3.out, G6.out⟩
                    case round =>
                      clear G1 G2 G3 G6
                      obtain ⟨j, hj, rfl, rfl, henv, hlog, hrow, hbel⟩ := hrel
                      have hll := logOf_le (zz rl l1) j
                      by_cases hjl : j < 2 * kk
                      · by_cases hodd : j % 2 = 1
                        · have hneg := zz_odd rl l1 j hodd
                          have ho : ((j : Int) % 2 == 1) = true := by simp; omega
                          have C1 := hid (a_hv _ j wr henv)
                          have C2 := hid (a_call_neg _ j _ wr (by omega) henv hlog hjl hneg)
                          have HE := hid henv
                          have HB := hid hbel
                          have HR := hid hrow
                          have HNEG := hid hneg
                          clear henv hlog hbel hneg hrow
                          go_wp2_with fail
                          refine Calls.mono C1.out ?_
                          rintro e w' ⟨rfl, rfl⟩
                          go_wp2_with fail
                          refine Calls.mono C2.out ?_
                          rintro e w1 ⟨rfl, h1, h2⟩
                          obtain ⟨ag, cp, f1⟩ : ∃ ag cp, w1.cell? ⟨N + 1 + 1 + 1 + 1, 0, none⟩ = some (.slice ag ((logOf (zz rl l1) j).length + 1) cp) := by
                            obtain ⟨g, cp, f1, _⟩ := h1.form
                            exact ⟨_, cp, f1⟩
                          have H1 := hid h1
                          have H2 := hid h2
                          clear h1 h2
                          go_wp2
                          go_roundw
                          case rel => exact ⟨j + 1, by omega, by go_num, by rw [logOf_neg HNEG.out]; simp, HE.out.kept H2.out, by rw [logOf_neg HNEG.out]; exact H1.out, HR.out.same (H2.out.block M E4 (by show M ≠ N + 1 + 1 + 1 + 1; omega)), HB.out.trans (H2.out.below (by simp [b_places]; omega) (by simp [b_places]; omega))⟩
                          case measure => simp [intOf]; omega
                        · have hev := zz_even rl l1 j hodd
                          have ho : ((j : Int) % 2 == 1) = false := by simp; omega
                          have C2 : Hid (Calls Yba.prog 20 #[.int .i64 j, .pointer (some ⟨N + 1 + 1 + 1 + 1 + 1 + 1 + 1, 0, none⟩), .pointer (some ⟨N + 1 + 1 + 1 + 1 + 1 + 1 + 1 + 1, 0, none⟩)] wr fun e w' => e = .returned (.bool (memb rl l1 (j / 2))) ∧ w' = wr) := by
                            rw [← hev.2]; exact a_call_pos _ j wr henv hjl hev.1
                          obtain ⟨ag, cp, f1⟩ : ∃ ag cp, wr.cell? ⟨N + 1 + 1 + 1 + 1, 0, none⟩ = some (.slice ag (logOf (zz rl l1) j).length cp) := hlog.len
                          have f2 : wr.cell? ⟨M, j / 2, none⟩ = some (.bool (memb rl l1 (j / 2))) := hrow.cell _ (by omega)
                          have f3 : ((j : Int) / 2).toNat = j / 2 := by omega
                          have f4 : 0 ≤ (j : Int) / 2 := by omega
                          have f5 : (j : Int) / 2 < kk := by omega
                          have HE := hid henv
                          have HB := hid hbel
                          have HL := hid hlog
                          have HR := hid hrow
                          have HEV := hid hev
                          clear henv hlog hbel hev hrow
                          go_wp2_with fail
                          refine Calls.mono C2.out ?_
                          rintro e w1 ⟨rfl, rfl⟩
                          go_wp2
                          go_roundw
                          case rel => exact ⟨j + 1, by omega, by go_num, by rw [logOf_pos HEV.out.1], HE.out, by rw [logOf_pos HEV.out.1]; exact HL.out, HR.out, HB.out⟩
                          case measure => simp [intOf]; omega
                      · have g7 : wr.cell? ⟨N + 1 + 1 + 1, 7, none⟩ = some (.slice (some ⟨N + 1 + 1 + 1 + 1 + 1 + 1 + 1 + 1 + 1, 0, none⟩) (2 * kk) (2 * kk)) := henv.c7
                        have HB := hid hbel
                        clear henv hlog hbel hrow
                        go_wp2
                        go_ret
                        exact ⟨by simp, HB.out⟩

set_option maxRecDepth 100000 in
theorem a_built_long (ao1 ao2 : Option Addr) (l1 c1 l2 c2 : Nat) (k : Int) (wk : Bool) (w : World)
    (h1 : (l1 : Int) ≤ 9223372036854775807) (h2 : (l2 : Int) ≤ 9223372036854775807) (h : 1024 < (l1 : Int) ∨ 4096 < (l2 : Int)) :
    Calls Yba.prog 5 #[.int .u16 k, .slice ao1 l1 c1, .slice ao2 l2 c2, .bool wk] w fun e w' => e = .returned (.bool true) ∧ Below w.heap.size w w' := by
  by_cases q : 1024 < (l1 : Int)
  · have hd : decide (1024 < (l1 : Int)) = true := by simpa using q
    go_enter Yba.func5, Yba.ntmps5
    go_wp2
    go_ret
    exact ⟨rfl, Below.refl _ _⟩
  · have hd : decide (1024 < (l1 : Int)) = false := by simpa using q
    have q2 : 4096 < (l2 : Int) := by omega
    have hd2 : decide (4096 < (l2 : Int)) = true := by simpa using q2
    go_enter Yba.func5, Yba.ntmps5
    go_wp2
    go_ret
    exact ⟨rfl, Below.refl _ _⟩

end Go.Proofs.Ybulkawna
