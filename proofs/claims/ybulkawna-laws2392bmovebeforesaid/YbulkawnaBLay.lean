import Derived.Test.YbulkawnaBFull
namespace Go.Proofs.Ybulkawna
open Go.RowKit B
set_option linter.unusedVariables false

theorem Fine_lay {n sp : Nat} {ord : List Nat} {s : OL} (hnd : ord.Nodup) (hl : ∀ v ∈ ord, v < n) (hall : ∀ v, v < n → v ∈ ord) (h0 : s.lab n = 0) (hsp : 1 ≤ sp) (hsb : (ord.length + 1) * sp ≤ 9223372036854775808)
    (hlab : ∀ i v, ord[i]? = some v → s.lab v = (i + 1) * sp) (hch : Ch s.nxt s.prv (n :: ord ++ [n])) : Fine n ord s := by
  refine ⟨⟨⟨hch, List.nodup_cons.2 ⟨fun e => Nat.lt_irrefl _ (hl n e), hnd⟩, hl⟩, ?_, h0, ?_⟩, hall⟩
  · unfold Inc
    rw [List.pairwise_cons, List.pairwise_iff_getElem]
    constructor
    · intro v hv
      obtain ⟨i, hi, e⟩ := List.mem_iff_getElem.1 hv
      rw [h0, hlab i v (by rw [List.getElem?_eq_getElem hi, e])]
      exact Nat.mul_pos (by omega) hsp
    · intro i j hi hj hij
      rw [hlab i _ (List.getElem?_eq_getElem hi), hlab j _ (List.getElem?_eq_getElem hj)]
      exact Nat.mul_lt_mul_of_pos_right (by omega) hsp
  · intro v hv
    obtain ⟨i, hi, e⟩ := List.mem_iff_getElem.1 hv
    rw [hlab i v (by rw [List.getElem?_eq_getElem hi, e])]
    have : (i + 1) * sp + sp ≤ (ord.length + 1) * sp := by
      rw [show (i + 1) * sp + sp = (i + 1 + 1) * sp from by rw [Nat.add_mul (i + 1) 1 sp]; omega]
      exact Nat.mul_le_mul_right _ (by omega)
    omega

set_option maxHeartbeats 1000000 in
set_option maxRecDepth 100000 in
theorem b_lay (q : OB) (s : OL) (w : World) (ok : OBok q) (h : OM q s w) (ord : List Nat) (br cap : Nat) (h0 : s.lab q.n = 0)
    (hrn : ord.Nodup) (hrl : ∀ v ∈ ord, v < q.n) (hall : ∀ v, v < q.n → v ∈ ord) (hat : RunAt w br ord) (hbr : br ≠ q.bl ∧ br ≠ q.bn ∧ br ≠ q.bp) :
    Calls Yba.prog 23 #[.pointer (some ⟨q.b, 0, none⟩), .slice (some ⟨br, 0, none⟩) ord.length cap] w fun e w' =>
      e = .returned (.tuple #[]) ∧ ∃ s' : OL, OM q s' w' ∧ Fine q.n ord s' ∧ K3 q w w' := by
  have hn := ok.hn
  have hlen : ord.length = q.n := ring_len hrn hrl hall
  obtain ⟨sp, hsp⟩ : ∃ g, 9223372036854775808 / (ord.length + 1) = g := ⟨_, rfl⟩
  have e5 : (9223372036854775808 : Int) / ((ord.length : Int) + 1) = (sp : Int) := by
    rw [← hsp]; simp
  have hsp1 : 1 ≤ sp := by
    rw [← hsp, Nat.le_div_iff_mul_le (by omega)]; omega
  have hsb : Hid ((ord.length + 1) * sp ≤ 9223372036854775808) := by
    have := Nat.mul_div_le 9223372036854775808 (ord.length + 1)
    rw [hsp] at this
    exact this
  have hspb : sp ≤ 9223372036854775808 := by rw [← hsp]; exact Nat.div_le_self _ _
  have c1 := h.c1
  have H := bhid h
  have H0 := bhid h0
  have HRN := bhid hrn
  have HRL := bhid hrl
  have HAT := bhid hat
  have HALL := bhid hall
  have HLEN := bhid hlen
  have hl201 : ord.length ≤ 201 := by omega
  clear h h0 hrn hrl hat hall hsp hlen
  go_enter Yba.func23, Yba.ntmps23
  go_wp2_with fail
  rw [e5]
  go_loopw [6, 23] (fun l i wr => ∃ (k la : Nat) (s' : OL), k ≤ ord.length ∧ l = .int .i64 la ∧ i = .int .i64 k ∧ Hid ((q.n :: ord)[k]? = some la) ∧ Hid (OM q s' wr) ∧ Hid (s'.lab q.n = 0) ∧ Hid (∀ i v, i < k → ord[i]? = some v → s'.lab v = (i + 1) * sp) ∧ Hid (Ch s'.nxt s'.prv (q.n :: ord.take k)) ∧ Hid (K3 q w wr)) (fun _ i _ => ord.length - (intOf i).toNat)
  case atStart => exact ⟨0, q.n, s, Nat.zero_le _, by go_num, rfl, rfl, H, H0, fun i v hi => absurd hi (Nat.not_lt_zero _), trivial, K3.refl _ _⟩
  case round =>
    obtain ⟨k, la, s1, hk, rfl, rfl, hla, M, hl0, hlab, hch, K⟩ := hrel
    have hlaq : la ≤ q.n := by
      have := List.mem_of_getElem? hla.out
      simp at this
      rcases this with r | r
      · omega
      · have := HRL.out la r; omega
    have hlai : (la : Int) < q.n + 1 := by omega
    have nd : Hid ((q.n :: ord).Nodup) := List.nodup_cons.2 ⟨fun e => Nat.lt_irrefl _ (HRL.out _ e), HRN.out⟩
    by_cases hkl : k < ord.length
    · have hki : (k : Int) < ord.length := by omega
      obtain ⟨v, hv⟩ : ∃ v, ord[k]? = some v := ⟨ord[k], List.getElem?_eq_getElem hkl⟩
      have hcell := HAT.out.k3 K.out hbr.1 hbr.2.1 hbr.2.2 k v hv
      have hvr : v ∈ ord := List.mem_of_getElem? hv
      have hvq : v < q.n := HRL.out v hvr
      have hvi : (v : Int) < q.n + 1 := by omega
      obtain ⟨ts, hts⟩ : ∃ ts, (k + 1) * sp = ts := ⟨_, rfl⟩
      have hts1 : ts ≤ 9223372036854775808 := by
        have h1 : (k + 1) * sp ≤ (ord.length + 1) * sp := Nat.mul_le_mul_right sp (by omega)
        have h2 := hsb.out
        omega
      have e6 : ((k : Int) + 1) * (sp : Int) = (ts : Int) := by rw [← hts]; simp
      have d0 := M.out.c0
      have y0 := M.out.l v (by omega)
      have fr : ∀ i, wr.frozen? ⟨q.bl, i, none⟩ = false := M.out.rl.free
      have MA := bhid (M.out.setl ok v ts)
      have KA := bhid (K.out.set q.bl v (.int .u64 (ts : Int)) (by simp))
      have hl02 : Hid (up s1.lab v ts q.n = 0) := by
        show _ = _
        rw [up_other _ _ _ _ (by omega)]; exact hl0.out
      have hlab2 : Hid (∀ i v', i < k + 1 → ord[i]? = some v' → up s1.lab v ts v' = (i + 1) * sp) := by
        intro i v' hi hv'
        by_cases e : i = k
        · rw [e] at hv'
          rw [hv] at hv'
          simp at hv'
          rw [← hv', up_same, e, hts]
        · have hnv : v' ≠ v := by
            intro e'
            rw [e'] at hv'
            have hil : i < ord.length := by omega
            have h1 := List.pairwise_iff_getElem.1 HRN.out i k hil hkl (by omega)
            rw [List.getElem?_eq_getElem hil] at hv'
            rw [List.getElem?_eq_getElem hkl] at hv
            simp at hv hv'
            exact h1 (by rw [hv, hv'])
          rw [up_other _ _ _ _ hnv]
          exact hlab.out i v' (by omega) hv'
      have hla2 : Hid ((q.n :: ord)[k + 1]? = some v) := hv
      have hch2 : Hid (Ch (up s1.nxt la v) (up s1.prv v la) (q.n :: ord.take (k + 1))) := by
        have e1 : q.n :: ord.take k = (q.n :: ord).take k ++ [la] := by
          have h1 : (q.n :: ord).take (k + 1) = (q.n :: ord).take k ++ [la] := by rw [List.take_add_one, hla.out]; rfl
          rw [← h1]; rfl
        have e2 : q.n :: ord.take (k + 1) = (q.n :: ord).take k ++ [la] ++ [v] := by
          rw [← e1, List.take_add_one, hv]; rfl
        show Ch _ _ _
        rw [e2]
        have hch' := hch.out
        rw [e1] at hch'
        have nd1 : (q.n :: ord.take (k + 1)).Nodup := by
          rw [show q.n :: ord.take (k + 1) = (q.n :: ord).take (k + 2) from rfl]; exact nd.out.sublist (List.take_sublist _ _)
        rw [e2, List.nodup_append] at nd1
        obtain ⟨n1, _, n2⟩ := nd1
        rw [List.nodup_append] at n1
        refine Ch_snoc hch' (fun e => n1.2.2 la e la (by simp) rfl) (fun e => n2 v (List.mem_of_mem_tail e) v (by simp) rfl)
      clear hv hch hlab hla hvr hts M K hl0
      go_wp2_with fail
      clear d0 y0 fr hcell
      have A := MA.out
      have B := KA.out
      clear MA KA
      generalize wr.setCell ⟨q.bl, v, none⟩ (.int .u64 (ts : Int)) = w1 at *
      have A1 := A.setn ok la v
      have A2 := A1.setp ok v la
      have x2 := A.x la hlaq
      have t2 := A1.p v (by omega)
      have f1 : ∀ i, w1.frozen? ⟨q.bn, i, none⟩ = false := A.rn.free
      have f2 : ∀ i, w1.frozen? ⟨q.bp, i, none⟩ = false := A.rp.free
      have KB := bhid ((B.set q.bn la (.int .i64 (v : Int)) (by simp)).set q.bp v (.int .i64 (la : Int)) (by simp))
      have MB := bhid A2
      have S0 := bhid (p := w1.cell? ⟨q.b, 1, none⟩ = some (.slice (some ⟨q.bn, 0, none⟩) (q.n + 1) (q.n + 1)) ∧ w1.cell? ⟨q.b, 2, none⟩ = some (.slice (some ⟨q.bp, 0, none⟩) (q.n + 1) (q.n + 1))) ⟨A.c1, A.c2⟩
      have S1 := bhid (p := (w1.setCell ⟨q.bn, la, none⟩ (.int .i64 (v : Int))).cell? ⟨q.b, 1, none⟩ = some (.slice (some ⟨q.bn, 0, none⟩) (q.n + 1) (q.n + 1)) ∧ (w1.setCell ⟨q.bn, la, none⟩ (.int .i64 (v : Int))).cell? ⟨q.b, 2, none⟩ = some (.slice (some ⟨q.bp, 0, none⟩) (q.n + 1) (q.n + 1))) ⟨A1.c1, A1.c2⟩
      have S2 := bhid (p := ((w1.setCell ⟨q.bn, la, none⟩ (.int .i64 (v : Int))).setCell ⟨q.bp, v, none⟩ (.int .i64 (la : Int))).cell? ⟨q.b, 1, none⟩ = some (.slice (some ⟨q.bn, 0, none⟩) (q.n + 1) (q.n + 1)) ∧ ((w1.setCell ⟨q.bn, la, none⟩ (.int .i64 (v : Int))).setCell ⟨q.bp, v, none⟩ (.int .i64 (la : Int))).cell? ⟨q.b, 2, none⟩ = some (.slice (some ⟨q.bp, 0, none⟩) (q.n + 1) (q.n + 1))) ⟨A2.c1, A2.c2⟩
      clear A B A1 A2
      go_region_held3 (fun w' => w'.cell? ⟨q.b, 1, none⟩ = some (.slice (some ⟨q.bn, 0, none⟩) (q.n + 1) (q.n + 1)) ∧ w'.cell? ⟨q.b, 2, none⟩ = some (.slice (some ⟨q.bp, 0, none⟩) (q.n + 1) (q.n + 1))) (first | exact S0.out | exact S1.out | exact S2.out) (fail)
      go_wp2
      go_roundw
      case rel => exact ⟨k + 1, v, _, by omega, rfl, by go_num, hla2, MB.out.drew, hl02, hlab2, hch2, KB.out.drew⟩
      case measure => simp [intOf]; omega
    · obtain rfl : k = ord.length := by omega
      have A1 := M.out.setn ok la q.n
      have A2 := A1.setp ok q.n la
      have x2 := M.out.x la hlaq
      have t2 := A1.p q.n (by omega)
      have hnq : (q.n : Int) < q.n + 1 := by omega
      have f1 : ∀ i, wr.frozen? ⟨q.bn, i, none⟩ = false := M.out.rn.free
      have f2 : ∀ i, wr.frozen? ⟨q.bp, i, none⟩ = false := M.out.rp.free
      have KB := bhid ((K.out.set q.bn la (.int .i64 (q.n : Int)) (by simp)).set q.bp q.n (.int .i64 (la : Int)) (by simp))
      have MB := bhid A2
      have S0 := bhid (p := wr.cell? ⟨q.b, 1, none⟩ = some (.slice (some ⟨q.bn, 0, none⟩) (q.n + 1) (q.n + 1)) ∧ wr.cell? ⟨q.b, 2, none⟩ = some (.slice (some ⟨q.bp, 0, none⟩) (q.n + 1) (q.n + 1))) ⟨M.out.c1, M.out.c2⟩
      have S1 := bhid (p := (wr.setCell ⟨q.bn, la, none⟩ (.int .i64 (q.n : Int))).cell? ⟨q.b, 1, none⟩ = some (.slice (some ⟨q.bn, 0, none⟩) (q.n + 1) (q.n + 1)) ∧ (wr.setCell ⟨q.bn, la, none⟩ (.int .i64 (q.n : Int))).cell? ⟨q.b, 2, none⟩ = some (.slice (some ⟨q.bp, 0, none⟩) (q.n + 1) (q.n + 1))) ⟨A1.c1, A1.c2⟩
      have S2 := bhid (p := ((wr.setCell ⟨q.bn, la, none⟩ (.int .i64 (q.n : Int))).setCell ⟨q.bp, q.n, none⟩ (.int .i64 (la : Int))).cell? ⟨q.b, 1, none⟩ = some (.slice (some ⟨q.bn, 0, none⟩) (q.n + 1) (q.n + 1)) ∧ ((wr.setCell ⟨q.bn, la, none⟩ (.int .i64 (q.n : Int))).setCell ⟨q.bp, q.n, none⟩ (.int .i64 (la : Int))).cell? ⟨q.b, 2, none⟩ = some (.slice (some ⟨q.bp, 0, none⟩) (q.n + 1) (q.n + 1))) ⟨A2.c1, A2.c2⟩
      have FF : Hid (Fine q.n ord ⟨s1.lab, up s1.nxt la q.n, up s1.prv q.n la⟩) := by
        refine Fine_lay (sp := sp) HRN.out HRL.out HALL.out hl0.out hsp1 hsb.out (fun i v hv => hlab.out i v (List.getElem?_eq_some_iff.1 hv).1 hv) ?_
        have hz : (q.n :: ord)[ord.length]? = some la := hla.out
        have e1 : q.n :: ord = (q.n :: ord).take ord.length ++ [la] := by
          have h1 : (q.n :: ord).take (ord.length + 1) = (q.n :: ord).take ord.length ++ [la] := by rw [List.take_add_one, hz]; rfl
          rw [← h1, List.take_of_length_le (by simp)]
        have hch' := hch.out
        rw [List.take_length] at hch'
        have nd' := nd.out
        generalize (q.n :: ord).take ord.length = L at e1
        have htl : (L ++ [la]).tail = ord := by rw [← e1]; rfl
        simp only
        rw [e1] at hch' nd' ⊢
        rw [List.nodup_append] at nd'
        exact Ch_snoc hch' (fun e => nd'.2.2 la e la (by simp) rfl) (by rw [htl]; exact fun e => Nat.lt_irrefl _ (HRL.out _ e))
      clear A1 A2 hch hlab hla M K
      go_wp2_with fail
      go_region_held3 (fun w' => w'.cell? ⟨q.b, 1, none⟩ = some (.slice (some ⟨q.bn, 0, none⟩) (q.n + 1) (q.n + 1)) ∧ w'.cell? ⟨q.b, 2, none⟩ = some (.slice (some ⟨q.bp, 0, none⟩) (q.n + 1) (q.n + 1))) (first | exact S0.out | exact S1.out | exact S2.out) (fail)
      go_wp2
      go_end0
      exact ⟨rfl, _, MB.out.drew, FF.out, KB.out.drew⟩

end Go.Proofs.Ybulkawna
