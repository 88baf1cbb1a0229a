import Derived.Test.YbulkawnaBBuf
namespace Go.Proofs.Ybulkawna
open Go.RowKit B
set_option linter.unusedVariables false

set_option maxHeartbeats 1000000 in
set_option maxRecDepth 100000 in
theorem b_walk (q : OB) (s : OL) (w : World) (ok : OBok q) (h : OM q s w) (xs : List Nat) (hf : Fine q.n xs s) :
    Calls Yba.prog 15 #[.pointer (some ⟨q.b, 0, none⟩), .int .i64 (q.n : Int)] w fun e w' =>
      e = .returned (.tuple #[.slice (some ⟨w.heap.size, 0, none⟩) q.n q.n, .bool true]) ∧ Buf w' w.heap.size q.n xs ∧ Below w.heap.size w w' := by
  have hn := ok.hn
  have hlen := hf.len
  obtain ⟨z, Wy⟩ : ∃ z, Way q.n xs s z := ⟨_, hf.way⟩
  have hni : (q.n : Int) < q.n + 1 := by omega
  have c0 := h.c0
  have M1 := h.alloc (.cells (madeCells #[.int .i64 0] q.n) 3)
  have c1 := M1.c1
  have l0 : w.cell? ⟨q.bl, q.n, none⟩ = some (.int .u64 0) := by
    have := h.l q.n (Nat.le_refl _)
    rw [hf.good.l0] at this
    exact this
  have x0 := M1.x q.n (Nat.le_refl _)
  have e0 := Wy.nx 0 (by omega)
  rw [Wy.z0] at e0
  rw [e0] at x0
  have hm := make_room q.n hn.2
  have H := bhid h
  have WY := bhid Wy
  have HL := bhid hlen
  clear h hf Wy hlen e0 M1
  go_enter Yba.func15, Yba.ntmps15
  go_wp2_with fail
  clear c0 c1 l0 x0 hm hni
  go_loopw [6, 7, 8, 9] (fun o p c i wr => ∃ k : Nat, k ≤ q.n ∧ o = .slice (some ⟨w.heap.size, 0, none⟩) k q.n ∧ p = .int .i64 (z k : Int) ∧ c = .int .i64 (z (k + 1) : Int) ∧ i = .int .i64 k ∧ Hid (Buf wr w.heap.size q.n (xs.take k)) ∧ Hid (Below w.heap.size w wr)) (fun _ _ _ i _ => q.n - (intOf i).toNat)
  case atStart => exact ⟨0, Nat.zero_le _, rfl, by rw [WY.out.z0], rfl, rfl, Buf.made w q.n, (Below.refl _ w).alloc (Nat.le_refl _) _⟩
  case round =>
    obtain ⟨k, hk, rfl, rfl, rfl, rfl, B, BB⟩ := hrel
    have M := H.out.below BB.out
    have hsz := BB.out.size
    have lts := H.out.lts
    by_cases hkn : k < q.n
    · obtain ⟨a, ha⟩ : ∃ a, z k = a := ⟨_, rfl⟩
      obtain ⟨c, hc⟩ : ∃ c, z (k + 1) = c := ⟨_, rfl⟩
      obtain ⟨d, hd⟩ : ∃ d, z (k + 1 + 1) = d := ⟨_, rfl⟩
      have hcn : c < q.n := by rw [← hc]; exact WY.out.lt k hkn
      have han : a ≤ q.n := by rw [← ha]; exact WY.out.le k (by omega)
      have hki : (k : Int) < q.n := by omega
      have hci : (c : Int) < q.n + 1 := by omega
      have hai : (a : Int) < q.n + 1 := by omega
      have hcn1 : ((c : Int) != (q.n : Int)) = true := by simp; omega
      have hcn2 : decide ((c : Int) < 0) = false := by simp
      have hcn3 : decide ((q.n : Int) ≤ (c : Int)) = false := by simp; omega
      have hcn4 : decide (q.n ≤ c) = false := by simp; omega
      have g2 := M.c2
      have p2 := M.p c (by omega)
      have e1 := WY.out.pv k (by omega)
      rw [hc, ha] at e1
      rw [e1] at p2
      have hpp : ((a : Int) != (a : Int)) = false := by simp
      have g0 := M.c0
      have l1 := M.l a han
      have l2 := M.l c (by omega)
      have hll := WY.out.lb k hkn
      rw [ha, hc] at hll
      obtain ⟨u, hu⟩ : ∃ u, s.lab a = u := ⟨_, rfl⟩
      obtain ⟨v, hv⟩ : ∃ v, s.lab c = v := ⟨_, rfl⟩
      rw [hu] at l1 hll
      rw [hv] at l2 hll
      have hlb : decide ((v : Int) ≤ (u : Int)) = false := by simp; omega
      have e2 := WY.out.nx (k + 1) (by omega)
      rw [hc, hd] at e2
      have hlk : Hid ((xs.take k).length = k) := by show _ = _; rw [List.length_take, HL.out]; omega
      have htk : Hid (xs.take (k + 1) = xs.take k ++ [c]) := by
        show _ = _
        rw [List.take_add_one, WY.out.at' k hkn, hc]; rfl
      have HM := bhid M
      have HE := bhid e2
      have HD := bhid hd
      have HC := bhid hc
      have HA := bhid ha
      clear M e1 e2 hu hv hd
      rw [hc, ha]
      clear hc ha
      go_wp2_with fail
      go_quiet (fail)
      clear g0 g2 p2 l1 l2
      have KM := bhid (HM.out.drewN nq)
      have KB := bhid (p := Buf (wr.drewN nq) w.heap.size q.n (xs.take k)) (B.out.same rfl)
      have KK := bhid (p := Below w.heap.size w (wr.drewN nq)) ⟨BB.out.os, BB.out.tape, BB.out.output, BB.out.size, BB.out.block⟩
      have hsz2 : w.heap.size ≤ (wr.drewN nq).heap.size := hsz
      clear HM B BB
      generalize wr.drewN nq = w1 at *
      go_wp2_with (at_builtin; refine wpList_push _ rfl (.tmp 71) (.tmp 73) rfl w.heap.size q.n w1.heap.size 1 k 1 (xs.take k) [c] rfl rfl hlk.out rfl (KB.out.alloc _) ?c1 ?c2 ?_)
      case c1 => exact run_one w1 c
      case c2 => omega
      intro w2 hb2 ho2
      rw [← htk.out] at hb2
      have M2 := ho2.om (KM.out.alloc _) (by omega) (by omega) (by omega) (by omega)
      have BB2 := ho2.below (KK.out.alloc hsz2 _) (Nat.le_refl _)
      have g1 := M2.c1
      have x1 := M2.x c (by omega)
      rw [HE.out] at x1
      have HB2 := bhid hb2
      have HBB2 := bhid BB2
      clear M2 BB2 hb2 ho2 KM KB KK
      go_wp2
      go_roundw
      case rel => exact ⟨k + 1, by omega, rfl, by rw [HC.out], by rw [HD.out], by go_num, HB2, HBB2⟩
      case measure => simp [intOf]; omega
    · obtain rfl : k = q.n := by omega
      obtain ⟨a, ha⟩ : ∃ a, z q.n = a := ⟨_, rfl⟩
      have hpp : ((a : Int) != (a : Int)) = false := by simp
      have hqq : ((q.n : Int) != (q.n : Int)) = false := by simp
      have g2 := M.c2
      have p2 := M.p q.n (Nat.le_refl _)
      have e1 := WY.out.pv q.n (Nat.le_refl _)
      rw [WY.out.ze, ha] at e1
      rw [e1] at p2
      have hni : (q.n : Int) < q.n + 1 := by omega
      rw [WY.out.ze, ha]
      clear M e1 ha
      go_wp2_with fail
      go_ret2
      exact ⟨rfl, by have := B.out; rwa [List.take_of_length_le (by rw [HL.out]; exact Nat.le_refl _)] at this, BB.out⟩

end Go.Proofs.Ybulkawna
