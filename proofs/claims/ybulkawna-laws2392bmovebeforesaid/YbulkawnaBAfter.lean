import Derived.Test.YbulkawnaBMove
namespace Go.Proofs.Ybulkawna
open Go.RowKit B
set_option linter.unusedVariables false

set_option maxHeartbeats 1000000 in
set_option maxRecDepth 100000 in
theorem b_behind (q : OB) (s : OL) (w : World) (ok : OBok q) (h : OM q s w) (p0 q0 run : List Nat) (t br cap : Nat) (hg : Fine q.n (p0 ++ t :: q0) s)
    (hrn : run.Nodup) (hrl : ∀ v ∈ run, v < q.n) (htr : t ∉ run) (hat : RunAt w br run) (hbr : br ≠ q.bl ∧ br ≠ q.bn ∧ br ≠ q.bp) :
    Calls Yba.prog 13 #[.pointer (some ⟨q.b, 0, none⟩), .int .i64 (t : Int), .slice (some ⟨br, 0, none⟩) run.length cap] w fun e w' =>
      ∃ (r : Nat) (s' : OL), e = .returned (.int .i64 (r : Int)) ∧ (run = [] → r = 0) ∧ run.length ≤ r ∧ OM q s' w' ∧ Fine q.n (behind p0 q0 run t) s' ∧ K3 q w w' := by
  have hn := ok.hn.2
  have htn : t < q.n := hg.good.ring.lt t (by simp)
  have hti : (t : Int) < q.n + 1 := by omega
  have hrx : ∀ v ∈ run, v ∈ p0 ++ t :: q0 := fun v hv => hg.all v (hrl v hv)
  have nd0 : (p0 ++ t :: q0).Nodup := (List.nodup_cons.1 hg.good.ring.nd).2
  have hall : ∀ v, v < q.n → v ∈ behind p0 q0 run t := fun v hv => mem_behind (hg.all v hv)
  have hblen : (behind p0 q0 run t).length = q.n := by
    refine ring_len (nodup_behind nd0 hrn htr) ?_ hall
    intro v hv
    unfold behind at hv
    simp at hv
    rcases hv with r | r | r | r
    · exact hg.good.ring.lt v (by have := (less_sub p0 run).subset r; simp [this])
    · omega
    · exact hrl v r
    · exact hg.good.ring.lt v (by have := (less_sub q0 run).subset r; simp [this])
  have hlr : run.length ≤ 201 := by unfold behind at hblen; simp at hblen; omega
  have el : less (p0 ++ t :: q0) run = less p0 run ++ t :: less q0 run := by rw [less_append, less_cons t q0 run htr]
  obtain ⟨P1, pv1, nt, Q1, hP1, hQ1, ep1, en1, _, _⟩ := hg.good.ring.around
  have hntq : nt ≤ q.n := by
    have : nt ∈ q0 ++ [q.n] := by rw [hQ1]; simp
    simp at this
    rcases this with r | r
    · have := hg.good.ring.lt nt (by simp [r]); omega
    · omega
  have hpv1 : pv1 ≤ q.n := by
    have : pv1 ∈ q.n :: p0 := by rw [hP1]; simp
    simp at this
    rcases this with r | r
    · omega
    · have := hg.good.ring.lt pv1 (by simp [r]); omega
  have c1 := h.c1
  by_cases htrade : ∃ y, run = [y] ∧ s.nxt y = t
  · -- the two neighbours trade
    obtain ⟨y, rfl, hyt⟩ := htrade
    have hyn : y < q.n := hrl y (by simp)
    have hty : t ≠ y := fun e => htr (by simp [e])
    have epy : pv1 = y := by
      obtain ⟨A, B, hAB⟩ := List.append_of_mem (hrx y (by simp))
      have hch := hg.good.ring.ch
      rw [hAB] at hch
      obtain ⟨nv, Q, hB⟩ : ∃ nv Q, B ++ [q.n] = nv :: Q := by
        cases B with
        | nil => exact ⟨q.n, [], rfl⟩
        | cons x l => exact ⟨x, l ++ [q.n], rfl⟩
      rw [show q.n :: (A ++ y :: B ++ [q.n]) = (q.n :: A) ++ y :: (B ++ [q.n]) from by simp, hB, Ch_append, Ch_cons] at hch
      have h1 := hch.2.1
      have h2 := hch.2.2.1
      rw [hyt] at h1
      rw [← h1, ep1] at h2
      exact h2
    subst epy
    obtain ⟨l, hl⟩ : ∃ l, p0 = l ++ [pv1] := by
      cases P1 with
      | nil => simp at hP1; omega
      | cons x l => simp at hP1; exact ⟨l, hP1.2⟩
    subst hl
    have hg2 := hg.good
    rw [show l ++ [pv1] ++ t :: q0 = l ++ pv1 :: t :: q0 from by simp] at hg2
    have hgt := hg2.trade
    obtain ⟨P2, pv2, nn, Q2, hP2, hQ2, ep2, en2, _, _⟩ := hg2.ring.around
    have hpv2 : pv2 ≤ q.n := by
      have : pv2 ∈ q.n :: l := by rw [hP2]; simp
      simp at this
      rcases this with r | r
      · omega
      · have := hg2.ring.lt pv2 (by simp [r]); omega
    have X := bhid (fun nq => b_trade q s (w.drewN nq) ok (h.drewN nq) pv1 t pv2 nt hyn htn (fun e => hty e.symm) ep2 en1 hpv2 hntq)
    have eb : behind (l ++ [pv1]) q0 [pv1] t = l ++ t :: pv1 :: q0 := by
      unfold behind
      have n1 : pv1 ∉ l := by
        intro e
        rw [List.append_assoc, List.nodup_append] at nd0
        exact nd0.2.2 pv1 e pv1 (by simp) rfl
      have n2 : pv1 ∉ q0 := by
        rw [List.nodup_append] at nd0
        exact fun e => nd0.2.2 pv1 (by simp) pv1 (by simp [e]) rfl
      have e1 : less (l ++ [pv1]) [pv1] = l := by
        rw [less_append, less_self (xs := l) (by simpa using n1)]
        have : less [pv1] [pv1] = [] := by unfold less; simp
        rw [this]; simp
      rw [e1, less_self (xs := q0) (by simpa using n2)]; simp
    have hr0 : w.cell? ⟨br, 0, none⟩ = some (.int .i64 (pv1 : Int)) := hat 0 pv1 rfl
    have FF : Hid (Fine q.n (behind (l ++ [pv1]) q0 [pv1] t) (tradeS s pv1 t)) := ⟨by rw [eb]; exact hgt, hall⟩
    have hyi : (pv1 : Int) < q.n + 1 := by omega
    have x1 := h.x pv1 (by omega)
    rw [hyt] at x1
    have hq1 : ((t : Int) == (t : Int)) = true := by simp
    clear h hg hrn hrl hrx nd0 hall hblen el hP1 hQ1 ep1 en1 hgt hP2 hQ2 ep2 en2 eb hat hg2 hyt
    simp only [List.length_singleton]
    go_enter Yba.func13, Yba.ntmps13
    go_wp2_with fail
    go_quiet (fail)
    go_wp2_with fail
    refine Calls.mono (X.out _) ?_
    rintro e w' ⟨rfl, M', K'⟩
    have MM := bhid M'
    have KK := bhid (((K3.refl q w).drewN _).trans K')
    clear M' K'
    go_wp2_with fail
    go_ret
    exact ⟨2, _, rfl, fun e => absurd e (by simp), by simp, MM.out, FF.out, KK.out⟩
  · have X1 := bhid (fun nq => b_unlink q s (w.drewN nq) ok (h.drewN nq) (p0 ++ t :: q0) run br cap hg.good.ring hrx hrn hlr (fun i v hv => hat i v hv) hbr)
    have HG := bhid hg
    have HRN := bhid hrn
    have HRL := bhid hrl
    have HAT := bhid hat
    have HALL := bhid hall
    have HBL := bhid hblen
    have EL := bhid el
    have HTR := bhid htr
    have H := bhid h
    clear hg hrn hrl hrx nd0 hall hblen el hP1 hQ1 ep1 en1 h htr
    by_cases hl1 : run.length = 1
    case' pos =>
      obtain ⟨y, rfl⟩ := List.length_eq_one_iff.1 hl1
      have hyn : y < q.n := HRL.out y (by simp)
      have hyi : (y : Int) < q.n + 1 := by omega
      have x1 := H.out.x y (by omega)
      have hnq : ¬ (s.nxt y = t) := fun e => htrade ⟨y, rfl, e⟩
      obtain ⟨ny, hny⟩ : ∃ ny, s.nxt y = ny := ⟨_, rfl⟩
      rw [hny] at x1 hnq
      clear hny
      have hq1 : ((ny : Int) == (t : Int)) = false := by simp; omega
      have hr0 : w.cell? ⟨br, 0, none⟩ = some (.int .i64 (y : Int)) := hat 0 y rfl
      clear hat htrade
      generalize hru : [y] = run at *
      have hl2 : ((run.length : Int) == 1) = true := by simp; omega
      have hl3 : (0 : Int) < run.length := by omega
      clear hru hl1
      go_enter Yba.func13, Yba.ntmps13
      go_wp2_with fail
      go_quiet (fail)
      go_wp2_with fail
      clear hq1 hr0 hl2 hl3 hyi hyn hnq x1
    case' neg =>
      have hl2 : ((run.length : Int) == 1) = false := by simp; omega
      clear hat htrade hl1
      go_enter Yba.func13, Yba.ntmps13
      go_wp2_with fail
      go_quiet (fail)
      go_wp2_with fail
      clear hl2
    all_goals
      clear c1
      refine Calls.mono (X1.out _) ?_
      rintro e w1 ⟨rfl, s1, M1, hl1, hr1, K1⟩
      have K1' := ((K3.refl q w).drewN _).trans K1
      have good1 := Good.less HG.out.good hr1 hl1
      have hat1 := HAT.out.k3 K1' hbr.1 hbr.2.1 hbr.2.2
      rw [EL.out] at hr1 good1
      rw [show less p0 run ++ t :: less q0 run = (less p0 run ++ [t]) ++ less q0 run from by simp] at good1
      have X2 := bhid (b_insert q s1 w1 ok M1 (less p0 run ++ [t]) (less q0 run) run (q.n :: less p0 run) t br cap good1 rfl HRN.out HRL.out (fun v hv => ⟨by
        intro e
        simp at e
        rcases e with r | r
        · exact not_mem_less hv r
        · exact HTR.out (r ▸ hv), not_mem_less hv⟩) (by have := HBL.out; unfold behind at this; omega) hat1 hbr)
      have KK1 := bhid K1'
      clear M1 hl1 hr1 K1 K1' good1 hat1
      go_wp2_with fail
      refine Calls.mono X2.out ?_
      rintro e w2 ⟨r, s2, rfl, hr0, hrr, M2, good2, K2⟩
      have MM := bhid M2
      have KK := bhid (KK1.out.trans K2)
      have FF : Hid (Fine q.n (behind p0 q0 run t) s2) := ⟨by unfold behind; exact good2, HALL.out⟩
      have HR0 := bhid hr0
      clear M2 K2 good2 hr0
      go_wp2_with fail
      go_ret
      exact ⟨r, s2, rfl, HR0.out, hrr, MM.out, FF.out, KK.out⟩

end Go.Proofs.Ybulkawna
