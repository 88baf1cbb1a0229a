import Derived.Test.YbulkawnaBMem
namespace Go.Proofs.Ybulkawna
open Go.RowKit B
set_option linter.unusedVariables false

/-- What trade makes of the rows. -/
def tradeS (s : OL) (a c : Nat) : OL :=
  { lab := up (up s.lab a (s.lab c)) c (s.lab a), nxt := up (up (up s.nxt (s.prv a) c) c a) a (s.nxt c), prv := up (up (up s.prv c (s.prv a)) a c) (s.nxt c) a }

set_option maxHeartbeats 1000000 in
set_option maxRecDepth 100000 in
theorem b_trade (q : OB) (s : OL) (w : World) (ok : OBok q) (h : OM q s w) (a c pa nc : Nat) (ha : a < q.n) (hc : c < q.n) (hac : a ≠ c) (epa : s.prv a = pa) (enc : s.nxt c = nc) (hpa : pa ≤ q.n) (hnc : nc ≤ q.n) :
    Calls Yba.prog 24 #[.pointer (some ⟨q.b, 0, none⟩), .int .i64 a, .int .i64 c] w fun e w' => e = .returned (.int .i64 2) ∧ OM q (tradeS s a c) w' ∧ K3 q w w' := by
  have hn := ok.hn.2
  have hai : (a : Int) < q.n + 1 := by omega
  have hci : (c : Int) < q.n + 1 := by omega
  have hpi : (pa : Int) < q.n + 1 := by omega
  have hni : (nc : Int) < q.n + 1 := by omega
  have EP := bhid epa
  have EN := bhid enc
  have H := bhid h
  have c0 := h.c0
  have c1 := h.c1
  have c2 := h.c2
  clear epa enc h
  go_enter Yba.func24, Yba.ntmps24
  go_wp2
  go_quiet (fail)
  clear c0 c1 c2
  have h1 := H.out.drewN nq
  have k1 := (K3.refl q w).drewN nq
  generalize w.drewN nq = w1 at h1 k1 ⊢
  have p1 : w1.cell? ⟨q.bp, a, none⟩ = some (.int .i64 (pa : Int)) := by rw [← EP.out]; exact h1.p a (by omega)
  have x1 : w1.cell? ⟨q.bn, c, none⟩ = some (.int .i64 (nc : Int)) := by rw [← EN.out]; exact h1.x c (by omega)
  have H1 := bhid h1
  have K1 := bhid k1
  clear h1 k1
  go_wp2
  go_quiet (fail)
  clear p1 x1
  have h := H1.out.drewN nq
  have k2 := bhid (K1.out.drewN nq)
  generalize w1.drewN nq = w2 at h k2 ⊢
  clear H1 K1
  have A1 := h.setn ok pa c
  have A2 := A1.setp ok c pa
  have A3 := A2.setn ok c a
  have A4 := A3.setp ok a c
  have A5 := A4.setn ok a nc
  have A6 := A5.setp ok nc a
  have f1 : ∀ i, w2.frozen? ⟨q.bn, i, none⟩ = false := h.rn.free
  have f2 : ∀ i, w2.frozen? ⟨q.bp, i, none⟩ = false := h.rp.free
  have t1 := h.x pa hpa
  have t2 := A1.p c (by omega)
  have t3 := A2.x c (by omega)
  have t4 := A3.p a (by omega)
  have t5 := A4.x a (by omega)
  have t6 := A5.p nc hnc
  have M3 := bhid A6
  have HK := bhid ((((((k2.out.set q.bn pa (.int .i64 (c : Int)) (by simp)).set q.bp c (.int .i64 (pa : Int)) (by simp)).set q.bn c (.int .i64 (a : Int)) (by simp)).set q.bp a (.int .i64 (c : Int)) (by simp)).set q.bn a (.int .i64 (nc : Int)) (by simp)).set q.bp nc (.int .i64 (a : Int)) (by simp))
  clear A1 A2 A3 A4 A5 A6 h k2
  go_wp2
  clear t1 t2 t3 t4 t5 t6 f1 f2
  generalize ((((((w2.setCell ⟨q.bn, pa, none⟩ (.int .i64 (c : Int))).setCell ⟨q.bp, c, none⟩ (.int .i64 (pa : Int))).setCell ⟨q.bn, c, none⟩ (.int .i64 (a : Int))).setCell ⟨q.bp, a, none⟩ (.int .i64 (c : Int))).setCell ⟨q.bn, a, none⟩ (.int .i64 (nc : Int))).setCell ⟨q.bp, nc, none⟩ (.int .i64 (a : Int))) = w3 at M3 HK ⊢
  have A7 := M3.out.setl ok a (s.lab c)
  have A8 := bhid (A7.setl ok c (s.lab a))
  have f3 : ∀ i, w3.frozen? ⟨q.bl, i, none⟩ = false := M3.out.rl.free
  have t7 := M3.out.l a (by omega)
  have t8 := M3.out.l c (by omega)
  have t9 := A7.l c (by omega)
  simp only at t7 t8 t9
  have HK' := bhid ((HK.out.set q.bl a (.int .u64 (s.lab c : Int)) (by simp)).set q.bl c (.int .u64 (s.lab a : Int)) (by simp))
  clear A7 M3 HK
  go_region
  all_goals
    go_wp2
    go_ret
    refine ⟨rfl, ?_, HK'.out.drew⟩
    have := A8.out.drew
    unfold tradeS
    rw [EP.out, EN.out]
    exact this

end Go.Proofs.Ybulkawna
