import Derived.Test.YbulkawnaBMem
import Derived.Deep.RegionHeld3
namespace Go.Proofs.Ybulkawna
open Go.RowKit B
set_option linter.unusedVariables false

/-- The run's cells. -/
def RunAt (w : World) (br : Nat) (run : List Nat) : Prop := ∀ (i v : Nat), run[i]? = some v → w.cell? ⟨br, i, none⟩ = some (.int .i64 (v : Int))
theorem RunAt.k3 {q : OB} {w w' : World} {br : Nat} {run : List Nat} (h : RunAt w br run) (k : K3 q w w') (h1 : br ≠ q.bl) (h2 : br ≠ q.bn) (h3 : br ≠ q.bp) : RunAt w' br run := by
  intro i v hv
  have hc := h i v hv
  exact (World.cell?_of_block (a := ⟨br, i, none⟩) (k.block br (World.block_lt_of_cell? (a := ⟨br, i, none⟩) _ hc) h1 h2 h3)).trans hc

/-- What is left of xs when run is taken out. -/
def less (xs run : List Nat) : List Nat := xs.filter (fun v => !run.contains v)

theorem less_nil (xs : List Nat) : less xs [] = xs := by simp [less]
theorem less_snoc (xs run : List Nat) (v : Nat) {p l : List Nat} (nd : xs.Nodup) (h : less xs run = p ++ v :: l) : less xs (run ++ [v]) = p ++ l := by
  have e : less xs (run ++ [v]) = (less xs run).filter (fun x => x != v) := by
    unfold less
    rw [List.filter_filter]
    apply List.filter_congr
    intro x _
    by_cases hx : x = v
    · subst hx; simp
    · simp [hx]
  rw [e, h]
  have nd' : (p ++ v :: l).Nodup := by rw [← h]; exact nd.filter _
  rw [List.nodup_append, List.nodup_cons] at nd'
  obtain ⟨_, ⟨n1, _⟩, n2⟩ := nd'
  rw [List.filter_append, List.filter_cons]
  simp only [bne_self_eq_false, Bool.false_eq_true, if_false]
  congr 1
  · rw [List.filter_eq_self]; intro x hx; simp; exact fun e => n2 x hx v (by simp) e
  · rw [List.filter_eq_self]; intro x hx; simp; exact fun e => n1 (e ▸ hx)

theorem mem_less {xs run : List Nat} {v : Nat} (h : v ∈ xs) (h2 : v ∉ run) : v ∈ less xs run := by
  unfold less; rw [List.mem_filter]; exact ⟨h, by simpa using h2⟩

set_option maxHeartbeats 1000000 in
set_option maxRecDepth 100000 in
/-- One round: v is taken out. -/
theorem b_unlink (q : OB) (s : OL) (w : World) (ok : OBok q) (h : OM q s w) (xs run : List Nat) (br cap : Nat) (hr : Ring q.n xs s.nxt s.prv) (hrun : ∀ v ∈ run, v ∈ xs) (hnd : run.Nodup) (hlen : run.length ≤ 201)
    (hat : RunAt w br run) (hbr : br ≠ q.bl ∧ br ≠ q.bn ∧ br ≠ q.bp) :
    Calls Yba.prog 25 #[.pointer (some ⟨q.b, 0, none⟩), .slice (some ⟨br, 0, none⟩) run.length cap] w fun e w' =>
      e = .returned (.tuple #[]) ∧ ∃ s', OM q s' w' ∧ s'.lab = s.lab ∧ Ring q.n (less xs run) s'.nxt s'.prv ∧ K3 q w w' := by
  have hn := ok.hn.2
  have H := bhid h
  have HR := bhid hr
  have HRUN := bhid hrun
  have HND := bhid hnd
  have HAT := bhid hat
  clear h hr hrun hnd hat
  go_enter Yba.func25, Yba.ntmps25
  go_wp2
  go_loopw [8] (fun i wr => ∃ k : Nat, k ≤ run.length ∧ i = .int .i64 k ∧ ∃ s', OM q s' wr ∧ s'.lab = s.lab ∧ Ring q.n (less xs (run.take k)) s'.nxt s'.prv ∧ K3 q w wr) (fun i _ => run.length - (intOf i).toNat)
  case atStart => exact ⟨0, Nat.zero_le _, rfl, s, H.out, rfl, by rw [List.take_zero, less_nil]; exact HR.out, K3.refl _ _⟩
  case round =>
    obtain ⟨k, hk, rfl, s', hm, hl, hring, hk3⟩ := hrel
    by_cases hkl : k < run.length
    · have hki : (k : Int) < run.length := by omega
      obtain ⟨v, hv⟩ : ∃ v, run[k]? = some v := ⟨run[k], List.getElem?_eq_getElem hkl⟩
      have hcell := HAT.out.k3 hk3 hbr.1 hbr.2.1 hbr.2.2 k v hv
      have hvx : v ∈ xs := HRUN.out v (List.mem_of_getElem? hv)
      have hvt : v ∉ run.take k := by
        intro hm
        obtain ⟨j, hj, e⟩ := List.mem_iff_getElem.1 hm
        rw [List.length_take] at hj
        have h1 := List.pairwise_iff_getElem.1 HND.out j k (by omega) hkl (by omega)
        rw [List.getElem_take] at e
        rw [List.getElem?_eq_getElem hkl] at hv
        simp at hv
        exact h1 (by rw [e, hv])
      obtain ⟨p, l, hpl⟩ := List.append_of_mem (mem_less hvx hvt)
      rw [hpl] at hring
      have hvn : v < q.n := hring.lt v (by simp)
      obtain ⟨P, pv, nv, Q, hP, hQ, e1, e2, _, _⟩ := hring.around
      have hpv : pv ≤ q.n := by
        have : pv ∈ q.n :: p := by rw [hP]; simp
        simp at this
        rcases this with r | r
        · omega
        · have := hring.lt pv (by simp [r]); omega
      have hnv : nv ≤ q.n := by
        have : nv ∈ l ++ [q.n] := by rw [hQ]; simp
        simp at this
        rcases this with r | r
        · have := hring.lt nv (by simp [r]); omega
        · omega
      have hne : pv ≠ v := by
        intro e
        have := nodup_split hring.nd
        have hm : pv ∈ q.n :: p := by rw [hP]; simp
        simp at hm
        rcases hm with r | r
        · exact this.2.1 (by rw [← r, e])
        · exact this.2.2.2.1 (by rw [← e]; exact r)
      have c1 := hm.c1
      have c2 := hm.c2
      have p1 : wr.cell? ⟨q.bp, v, none⟩ = some (.int .i64 (pv : Int)) := by rw [← e1]; exact hm.p v (by omega)
      have x1 : wr.cell? ⟨q.bn, v, none⟩ = some (.int .i64 (nv : Int)) := by rw [← e2]; exact hm.x v (by omega)
      have x2 := hm.x pv hpv
      have A1 := hm.setn ok pv nv
      have A2 := A1.setp ok nv pv
      have t2 := A1.p nv hnv
      have f1 : ∀ i, wr.frozen? ⟨q.bn, i, none⟩ = false := hm.rn.free
      have f2 : ∀ i, wr.frozen? ⟨q.bp, i, none⟩ = false := hm.rp.free
      have hvi : (v : Int) < q.n + 1 := by omega
      have hpi : (pv : Int) < q.n + 1 := by omega
      have hni : (nv : Int) < q.n + 1 := by omega
      have K := bhid ((hk3.set q.bn pv (.int .i64 (nv : Int)) (by simp)).set q.bp nv (.int .i64 (pv : Int)) (by simp))
      have R : Hid (Ring q.n (less xs (run.take (k + 1))) (up s'.nxt pv nv) (up s'.prv nv pv)) := by
        have := hring.out
        rw [e1, e2] at this
        rw [List.take_add_one, hv]
        show Ring q.n (less xs (run.take k ++ [v])) _ _
        rw [less_snoc xs (run.take k) v (List.nodup_cons.1 HR.out.nd).2 hpl]
        exact this
      have hne2 : nv ≠ v := by
        intro e
        have nd := nodup_split hring.nd
        have hm : nv ∈ l ++ [q.n] := by rw [hQ]; simp
        simp at hm
        rcases hm with r | r
        · exact nd.2.2.2.2.1 (by rw [← e]; exact r)
        · exact nd.2.1 (by rw [← r, e])
      have S0 := bhid (p := wr.cell? ⟨q.b, 1, none⟩ = some (.slice (some ⟨q.bn, 0, none⟩) (q.n + 1) (q.n + 1)) ∧ wr.cell? ⟨q.b, 2, none⟩ = some (.slice (some ⟨q.bp, 0, none⟩) (q.n + 1) (q.n + 1)) ∧ wr.cell? ⟨q.bp, v, none⟩ = some (.int .i64 (pv : Int)) ∧ wr.cell? ⟨q.bn, v, none⟩ = some (.int .i64 (nv : Int))) ⟨c1, c2, p1, x1⟩
      have S1 := bhid (p := (wr.setCell ⟨q.bn, pv, none⟩ (.int .i64 (nv : Int))).cell? ⟨q.b, 1, none⟩ = some (.slice (some ⟨q.bn, 0, none⟩) (q.n + 1) (q.n + 1)) ∧ (wr.setCell ⟨q.bn, pv, none⟩ (.int .i64 (nv : Int))).cell? ⟨q.b, 2, none⟩ = some (.slice (some ⟨q.bp, 0, none⟩) (q.n + 1) (q.n + 1)) ∧ (wr.setCell ⟨q.bn, pv, none⟩ (.int .i64 (nv : Int))).cell? ⟨q.bp, v, none⟩ = some (.int .i64 (pv : Int)) ∧ (wr.setCell ⟨q.bn, pv, none⟩ (.int .i64 (nv : Int))).cell? ⟨q.bn, v, none⟩ = some (.int .i64 (nv : Int)))
        ⟨A1.c1, A1.c2, by have := A1.p v (by omega); simp only at this; rw [e1] at this; exact this, by have := A1.x v (by omega); simp only at this; rw [up_other _ _ _ _ (fun e => hne e.symm), e2] at this; exact this⟩
      have S2 := bhid (p := ((wr.setCell ⟨q.bn, pv, none⟩ (.int .i64 (nv : Int))).setCell ⟨q.bp, nv, none⟩ (.int .i64 (pv : Int))).cell? ⟨q.b, 1, none⟩ = some (.slice (some ⟨q.bn, 0, none⟩) (q.n + 1) (q.n + 1)) ∧ ((wr.setCell ⟨q.bn, pv, none⟩ (.int .i64 (nv : Int))).setCell ⟨q.bp, nv, none⟩ (.int .i64 (pv : Int))).cell? ⟨q.b, 2, none⟩ = some (.slice (some ⟨q.bp, 0, none⟩) (q.n + 1) (q.n + 1)) ∧ ((wr.setCell ⟨q.bn, pv, none⟩ (.int .i64 (nv : Int))).setCell ⟨q.bp, nv, none⟩ (.int .i64 (pv : Int))).cell? ⟨q.bp, v, none⟩ = some (.int .i64 (pv : Int)) ∧ ((wr.setCell ⟨q.bn, pv, none⟩ (.int .i64 (nv : Int))).setCell ⟨q.bp, nv, none⟩ (.int .i64 (pv : Int))).cell? ⟨q.bn, v, none⟩ = some (.int .i64 (nv : Int)))
        ⟨A2.c1, A2.c2, by have := A2.p v (by omega); simp only at this; rw [up_other _ _ _ _ (fun e => hne2 e.symm), e1] at this; exact this, by have := A2.x v (by omega); simp only at this; rw [up_other _ _ _ _ (fun e => hne e.symm), e2] at this; exact this⟩
      have A := bhid A2
      have L := bhid hl
      clear hring hm hk3 A1 A2 hl hpl hP hQ e1 e2
      go_wp2
      go_region_held3 (fun w' => w'.cell? ⟨q.b, 1, none⟩ = some (.slice (some ⟨q.bn, 0, none⟩) (q.n + 1) (q.n + 1)) ∧ w'.cell? ⟨q.b, 2, none⟩ = some (.slice (some ⟨q.bp, 0, none⟩) (q.n + 1) (q.n + 1)) ∧ w'.cell? ⟨q.bp, v, none⟩ = some (.int .i64 (pv : Int)) ∧ w'.cell? ⟨q.bn, v, none⟩ = some (.int .i64 (nv : Int))) (first | exact S0.out | exact S1.out | exact S2.out) (fail)
      go_wp2
      go_roundw
      case rel => exact ⟨k + 1, by omega, by go_num, _, A.out.drew, L.out, R.out, K.out.drew⟩
      case measure => simp [intOf]; omega
    · obtain rfl : k = run.length := by omega
      have M := bhid hm
      have K := bhid hk3
      have L := bhid hl
      have R := bhid hring
      clear hm hk3 hl hring
      go_wp2
      go_end0
      exact ⟨rfl, s', M.out, L.out, by have := R.out; rwa [List.take_length] at this, K.out⟩

end Go.Proofs.Ybulkawna
