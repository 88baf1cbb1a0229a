import Derived.Test.YbulkawnaBFull
namespace Go.Proofs.Ybulkawna
open Go.RowKit B
set_option linter.unusedVariables false

set_option maxHeartbeats 1000000 in
set_option maxRecDepth 100000 in
theorem b_before (q : OB) (s : OL) (w : World) (ok : OBok q) (h : OM q s w) (p0 q0 run : List Nat) (t br cap : Nat) (hg : Fine q.n (p0 ++ t :: q0) s)
    (hrn : run.Nodup) (hrl : ∀ v ∈ run, v < q.n) (htr : t ∉ run) (hat : RunAt w br run) (hbr : br ≠ q.bl ∧ br ≠ q.bn ∧ br ≠ q.bp) :
    Calls Yba.prog 14 #[.pointer (some ⟨q.b, 0, none⟩), .int .i64 (t : Int), .slice (some ⟨br, 0, none⟩) run.length cap] w fun e w' =>
      ∃ (r : Nat) (s' : OL), e = .returned (.int .i64 (r : Int)) ∧ (run = [] → r = 0) ∧ run.length ≤ r ∧ OM q s' w' ∧ Fine q.n (before p0 q0 run t) s' ∧ K3 q w w' := by
  have hn := ok.hn.2
  have htn : t < q.n := hg.good.ring.lt t (by simp)
  have hti : (t : Int) < q.n + 1 := by omega
  have hrx : ∀ v ∈ run, v ∈ p0 ++ t :: q0 := fun v hv => hg.all v (hrl v hv)
  have nd0 : (p0 ++ t :: q0).Nodup := (List.nodup_cons.1 hg.good.ring.nd).2
  have hall : ∀ v, v < q.n → v ∈ before p0 q0 run t := fun v hv => mem_before (hg.all v hv)
  have hblen : (before p0 q0 run t).length = q.n := by
    refine ring_len (nodup_before nd0 hrn htr) ?_ hall
    intro v hv
    unfold before at hv
    simp at hv
    rcases hv with r | r | r | r
    · exact hg.good.ring.lt v (by have := (less_sub p0 run).subset r; simp [this])
    · exact hrl v r
    · omega
    · exact hg.good.ring.lt v (by have := (less_sub q0 run).subset r; simp [this])
  have hlr : run.length ≤ 201 := by unfold before at hblen; simp at hblen; omega
  have el : less (p0 ++ t :: q0) run = less p0 run ++ t :: less q0 run := by rw [less_append, less_cons t q0 run htr]
  obtain ⟨P1, pv1, nt, Q1, hP1, hQ1, ep1, en1, _, _⟩ := hg.good.ring.around
  have hntq : nt ≤ q.n := by
    have : nt ∈ q0 ++ [q.n] := by rw [hQ1]; simp
    simp at this
    rcases this with r | r
    · have := hg.good.ring.lt nt (by simp [r]); omega
    · omega
  have hpv1 : pv1 ≤ q.n := by
    have : pv1 ∈ q.n :: p0 := by rw [hP1]; simp
    simp at this
    rcases this with r | r
    · omega
    · have := hg.good.ring.lt pv1 (by simp [r]); omega
  have c1 := h.c1
  have x1 := h.x t (by omega)
  rw [en1] at x1
  by_cases htrade : run = [nt]
  · -- the two neighbours trade
    subst htrade
    have hnn : nt < q.n := hrl nt (by simp)
    obtain ⟨l, hl⟩ : ∃ l, q0 = nt :: l := by
      cases q0 with
      | nil => simp at hQ1; omega
      | cons x l => simp at hQ1; exact ⟨l, by rw [hQ1.1]⟩
    subst hl
    have hgt := hg.good.trade
    obtain ⟨P2, pv2, nn, Q2, hP2, hQ2, ep2, en2, _, _⟩ : ∃ P pv nv Q, q.n :: (p0 ++ [t]) = P ++ [pv] ∧ l ++ [q.n] = nv :: Q ∧ s.prv nt = pv ∧ s.nxt nt = nv ∧ Ch s.nxt s.prv (P ++ [pv]) ∧ Ch s.nxt s.prv (nv :: Q) := by
      have := hg.good.ring
      rw [show p0 ++ t :: nt :: l = (p0 ++ [t]) ++ nt :: l from by simp] at this
      exact this.around
    have hnnq : nn ≤ q.n := by
      have : nn ∈ l ++ [q.n] := by rw [hQ2]; simp
      simp at this
      rcases this with r | r
      · have := hg.good.ring.lt nn (by simp [r]); omega
      · omega
    have htne : t ≠ nt := fun e => htr (by simp [e])
    have X := bhid (fun nq => b_trade q s (w.drewN nq) ok (h.drewN nq) t nt pv1 nn htn hnn htne ep1 en2 hpv1 hnnq)
    have eb : before p0 (nt :: l) [nt] t = p0 ++ nt :: t :: l := by
      unfold before
      have n1 : nt ∉ p0 := by
        intro e
        rw [List.nodup_append] at nd0
        exact nd0.2.2 nt e nt (by simp) rfl
      have n2 : nt ∉ l := by
        rw [List.nodup_append, List.nodup_cons, List.nodup_cons] at nd0
        exact nd0.2.1.2.1
      rw [less_self (xs := p0) (by simpa using n1)]
      have : less (nt :: l) [nt] = l := by
        unfold less
        rw [List.filter_cons, if_neg (by simp)]
        exact less_self (xs := l) (run := [nt]) (by simpa using n2)
      rw [this]; simp
    have hr0 : w.cell? ⟨br, 0, none⟩ = some (.int .i64 (nt : Int)) := hat 0 nt rfl
    have FF : Hid (Fine q.n (before p0 (nt :: l) [nt] t) (tradeS s t nt)) := ⟨by rw [eb]; exact hgt, hall⟩
    have hnni : (nt : Int) < q.n + 1 := by omega
    have hq1 : ((nt : Int) == (nt : Int)) = true := by simp
    clear h hg hrn hrl hrx nd0 hall hblen el hP1 hQ1 ep1 en1 hgt hP2 hQ2 ep2 en2 eb hat
    simp only [List.length_singleton]
    go_enter Yba.func14, Yba.ntmps14
    go_wp2_with fail
    go_quiet (fail)
    go_wp2_with fail
    refine Calls.mono (X.out _) ?_
    rintro e w' ⟨rfl, M', K'⟩
    have MM := bhid M'
    have KK := bhid (((K3.refl q w).drewN _).trans K')
    clear M' K'
    go_wp2_with fail
    go_ret
    exact ⟨2, _, rfl, fun e => absurd e (by simp), by simp, MM.out, FF.out, KK.out⟩
  · have X1 := bhid (fun nq => b_unlink q s (w.drewN nq) ok (h.drewN nq) (p0 ++ t :: q0) run br cap hg.good.ring hrx hrn hlr (fun i v hv => hat i v hv) hbr)
    have HG := bhid hg
    have HRN := bhid hrn
    have HRL := bhid hrl
    have HAT := bhid hat
    have HALL := bhid hall
    have HBL := bhid hblen
    have EL := bhid el
    have HTR := bhid htr
    clear hg hrn hrl hrx nd0 hall hblen el hP1 hQ1 ep1 en1 h htr
    by_cases hl1 : run.length = 1
    case' pos =>
      obtain ⟨y, rfl⟩ := List.length_eq_one_iff.1 hl1
      have hy : y ≠ nt := fun e => htrade (by rw [e])
      have hq1 : ((nt : Int) == (y : Int)) = false := by simp; omega
      have hr0 : w.cell? ⟨br, 0, none⟩ = some (.int .i64 (y : Int)) := hat 0 y rfl
      clear hat htrade
      generalize hru : [y] = run at *
      have hl2 : ((run.length : Int) == 1) = true := by simp; omega
      have hl3 : (0 : Int) < run.length := by omega
      clear hru hl1
      go_enter Yba.func14, Yba.ntmps14
      go_wp2_with fail
      go_quiet (fail)
      go_wp2_with fail
      clear hq1 hr0 hl2 hl3 hy
    case' neg =>
      have hl2 : ((run.length : Int) == 1) = false := by simp; omega
      clear hat htrade hl1
      go_enter Yba.func14, Yba.ntmps14
      go_wp2_with fail
      go_quiet (fail)
      go_wp2_with fail
      clear hl2
    all_goals
      clear c1 x1
      refine Calls.mono (X1.out _) ?_
      rintro e w1 ⟨rfl, s1, M1, hl1, hr1, K1⟩
      have K1' := ((K3.refl q w).drewN _).trans K1
      have good1 := Good.less HG.out.good hr1 hl1
      have hat1 := HAT.out.k3 K1' hbr.1 hbr.2.1 hbr.2.2
      rw [EL.out] at hr1 good1
      obtain ⟨P, pv, nv, Q, hP, hQ, epv, env, _, _⟩ := hr1.around
      have hpvq : pv ≤ q.n := by
        have : pv ∈ q.n :: less p0 run := by rw [hP]; simp
        simp at this
        rcases this with r | r
        · omega
        · have := hr1.lt pv (by simp [r]); omega
      have d2 := M1.c2
      have y2 := M1.p t (by omega)
      rw [epv] at y2
      have X2 := bhid (b_insert q s1 w1 ok M1 (less p0 run) (t :: less q0 run) run P pv br cap good1 hP HRN.out HRL.out (fun v hv => ⟨not_mem_less hv, by
        intro e
        simp at e
        rcases e with r | r
        · exact HTR.out (r ▸ hv)
        · exact not_mem_less hv r⟩) (by have := HBL.out; unfold before at this; omega) hat1 hbr)
      have KK1 := bhid K1'
      clear M1 hl1 hr1 K1 K1' good1 hat1 hP hQ epv env
      go_wp2_with fail
      refine Calls.mono X2.out ?_
      rintro e w2 ⟨r, s2, rfl, hr0, hrr, M2, good2, K2⟩
      have MM := bhid M2
      have KK := bhid (KK1.out.trans K2)
      have FF : Hid (Fine q.n (before p0 q0 run t) s2) := ⟨by unfold before; exact good2, HALL.out⟩
      have HR0 := bhid hr0
      clear M2 K2 good2 hr0
      go_wp2_with fail
      go_ret
      exact ⟨r, s2, rfl, HR0.out, hrr, MM.out, FF.out, KK.out⟩

end Go.Proofs.Ybulkawna
