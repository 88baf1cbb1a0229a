import Derived.Test.YbulkawnaBPlaces
namespace Go.Proofs.Ybulkawna
open Go.RowKit B
set_option linter.unusedVariables false

set_option maxHeartbeats 1000000 in
set_option maxRecDepth 100000 in
theorem b_insert (q : OB) (s : OL) (w : World) (ok : OBok q) (h : OM q s w) (p qq run P : List Nat) (a br cap : Nat) (hg : Good q.n (p ++ qq) s) (hP : q.n :: p = P ++ [a])
    (hrn : run.Nodup) (hrl : ∀ v ∈ run, v < q.n) (hrd : ∀ v ∈ run, v ∉ p ∧ v ∉ qq) (hlen : (p ++ run ++ qq).length ≤ q.n)
    (hat : RunAt w br run) (hbr : br ≠ q.bl ∧ br ≠ q.bn ∧ br ≠ q.bp) :
    Calls Yba.prog 26 #[.pointer (some ⟨q.b, 0, none⟩), .int .i64 (a : Int), .slice (some ⟨br, 0, none⟩) run.length cap] w fun e w' =>
      ∃ (r : Nat) (s' : OL), e = .returned (.int .i64 (r : Int)) ∧ (run = [] → r = 0) ∧ run.length ≤ r ∧ OM q s' w' ∧ Good q.n (p ++ run ++ qq) s' ∧ K3 q w w' := by
  have hn := ok.hn.2
  obtain ⟨f, Q, hQ⟩ : ∃ f Q, qq ++ [q.n] = f :: Q := by
    cases qq with
    | nil => exact ⟨q.n, [], rfl⟩
    | cons x l => exact ⟨x, l ++ [q.n], rfl⟩
  have hPa : a ∈ q.n :: p := by rw [hP]; simp
  have haq : a ≤ q.n := by
    simp at hPa
    rcases hPa with r | r
    · omega
    · have := hg.ring.lt a (by simp [r]); omega
  have hfq : f ≤ q.n := by
    have : f ∈ qq ++ [q.n] := by rw [hQ]; simp
    simp at this
    rcases this with r | r
    · have := hg.ring.lt f (by simp [r]); omega
    · omega
  have har : a ∉ run := by
    intro e
    simp at hPa
    rcases hPa with r | r
    · have := hrl a e; omega
    · exact (hrd a e).1 r
  have hnx : s.nxt a = f := by
    have hc := hg.ring.ch
    rw [show q.n :: (p ++ qq ++ [q.n]) = (q.n :: p) ++ (qq ++ [q.n]) from by simp, hP, hQ, List.append_assoc, List.singleton_append, Ch_append] at hc
    exact hc.2.1
  have hlr : run.length ≤ 201 := by simp at hlen; omega
  have hai : (a : Int) < q.n + 1 := by omega
  have hfi : (f : Int) < q.n + 1 := by omega
  have c1 := h.c1
  have x1 := h.x a haq
  rw [hnx] at x1
  by_cases hrz : run.length = 0
  · obtain rfl : run = [] := List.length_eq_zero_iff.1 hrz
    have H := bhid h
    have G := bhid hg
    clear h hg hP hrn hrl hrd hat hQ hPa har hnx hlen
    simp only [List.length_nil]
    go_enter Yba.func26, Yba.ntmps26
    go_wp2_with fail
    go_ret
    exact ⟨0, s, rfl, fun _ => rfl, Nat.le_refl _, H.out, by simpa using G.out, K3.refl _ _⟩
  · have hrz' : (0 : Int) < run.length := by omega
    have hrz2 : ((run.length : Int) == 0) = false := by simp; intro e; exact hrz (by rw [e]; rfl)
    have H := bhid h
    have G := bhid hg
    have HP := bhid hP
    have HQ := bhid hQ
    have HRN := bhid hrn
    have HRL := bhid hrl
    have HRD := bhid hrd
    have HAT := bhid hat
    have HAR := bhid har
    have HLEN := bhid hlen
    have HPA := bhid hPa
    clear h hg hP hrn hrl hrd hat hQ hPa har hnx hlen
    go_enter Yba.func26, Yba.ntmps26
    go_wp2_with fail
    go_loopw [9, 36] (fun l i wr => ∃ (k la : Nat) (s' : OL), k ≤ run.length ∧ l = .int .i64 la ∧ i = .int .i64 k ∧ Hid ((a :: run)[k]? = some la) ∧ Hid (OM q s' wr) ∧ Hid (s'.lab = s.lab) ∧ Hid (Ch s'.nxt s'.prv (a :: run.take k)) ∧ Hid (∀ x, x ∉ a :: run → s'.nxt x = s.nxt x) ∧ Hid (∀ x, x ∉ run → s'.prv x = s.prv x) ∧ Hid (K3 q w wr)) (fun _ i _ => run.length - (intOf i).toNat)
    case atStart => exact ⟨0, a, s, Nat.zero_le _, rfl, rfl, rfl, H, rfl, trivial, fun _ _ => rfl, fun _ _ => rfl, K3.refl _ _⟩
    case round =>
      obtain ⟨k, la, s1, hk, rfl, rfl, hla, M, hlab, hch, hnn, hpp, K⟩ := hrel
      have hlaq : la ≤ q.n := by
        have := List.mem_of_getElem? hla.out
        simp at this
        rcases this with r | r
        · omega
        · have := HRL.out la r; omega
      have hlai : (la : Int) < q.n + 1 := by omega
      by_cases hkl : k < run.length
      · have hki : (k : Int) < run.length := by omega
        obtain ⟨v, hv⟩ : ∃ v, run[k]? = some v := ⟨run[k], List.getElem?_eq_getElem hkl⟩
        have hcell := HAT.out.k3 K.out hbr.1 hbr.2.1 hbr.2.2 k v hv
        have hvr : v ∈ run := List.mem_of_getElem? hv
        have hvq : v < q.n := HRL.out v hvr
        have hvi : (v : Int) < q.n + 1 := by omega
        have A1 := M.out.setn ok la v
        have A2 := A1.setp ok v la
        have x2 := M.out.x la hlaq
        have t2 := A1.p v (by omega)
        have f1 : ∀ i, wr.frozen? ⟨q.bn, i, none⟩ = false := M.out.rn.free
        have f2 : ∀ i, wr.frozen? ⟨q.bp, i, none⟩ = false := M.out.rp.free
        have KA := bhid ((K.out.set q.bn la (.int .i64 (v : Int)) (by simp)).set q.bp v (.int .i64 (la : Int)) (by simp))
        have MA := bhid A2
        have S0 := bhid (p := wr.cell? ⟨q.b, 1, none⟩ = some (.slice (some ⟨q.bn, 0, none⟩) (q.n + 1) (q.n + 1)) ∧ wr.cell? ⟨q.b, 2, none⟩ = some (.slice (some ⟨q.bp, 0, none⟩) (q.n + 1) (q.n + 1))) ⟨M.out.c1, M.out.c2⟩
        have S1 := bhid (p := (wr.setCell ⟨q.bn, la, none⟩ (.int .i64 (v : Int))).cell? ⟨q.b, 1, none⟩ = some (.slice (some ⟨q.bn, 0, none⟩) (q.n + 1) (q.n + 1)) ∧ (wr.setCell ⟨q.bn, la, none⟩ (.int .i64 (v : Int))).cell? ⟨q.b, 2, none⟩ = some (.slice (some ⟨q.bp, 0, none⟩) (q.n + 1) (q.n + 1))) ⟨A1.c1, A1.c2⟩
        have S2 := bhid (p := ((wr.setCell ⟨q.bn, la, none⟩ (.int .i64 (v : Int))).setCell ⟨q.bp, v, none⟩ (.int .i64 (la : Int))).cell? ⟨q.b, 1, none⟩ = some (.slice (some ⟨q.bn, 0, none⟩) (q.n + 1) (q.n + 1)) ∧ ((wr.setCell ⟨q.bn, la, none⟩ (.int .i64 (v : Int))).setCell ⟨q.bp, v, none⟩ (.int .i64 (la : Int))).cell? ⟨q.b, 2, none⟩ = some (.slice (some ⟨q.bp, 0, none⟩) (q.n + 1) (q.n + 1))) ⟨A2.c1, A2.c2⟩
        have hla2 : Hid ((a :: run)[k + 1]? = some v) := hv
        have hch2 : Hid (Ch (up s1.nxt la v) (up s1.prv v la) (a :: run.take (k + 1))) := by
          have e1 : a :: run.take k = (a :: run).take k ++ [la] := by
            have h1 : (a :: run).take (k + 1) = (a :: run).take k ++ [la] := by rw [List.take_add_one, hla.out]; rfl
            rw [← h1]; rfl
          have e2 : a :: run.take (k + 1) = (a :: run).take k ++ [la] ++ [v] := by
            rw [← e1, List.take_add_one, hv]; rfl
          show Ch _ _ _
          rw [e2]
          have nd : (a :: run).Nodup := List.nodup_cons.2 ⟨HAR.out, HRN.out⟩
          have hch' := hch.out
          rw [e1] at hch'
          have nd1 : (a :: run.take (k + 1)).Nodup := by
            rw [show a :: run.take (k + 1) = (a :: run).take (k + 2) from rfl]; exact nd.sublist (List.take_sublist _ _)
          rw [e2, List.nodup_append] at nd1
          obtain ⟨n1, _, n2⟩ := nd1
          rw [List.nodup_append] at n1
          refine Ch_snoc hch' (fun e => n1.2.2 la e la (by simp) rfl) (fun e => n2 v (List.mem_of_mem_tail e) v (by simp) rfl)
        have hnn2 : Hid (∀ x, x ∉ a :: run → up s1.nxt la v x = s.nxt x) := by
          intro x hx
          rw [up_other _ _ _ _ (fun e => hx (by rw [e]; exact List.mem_of_getElem? hla.out))]
          exact hnn.out x hx
        have hpp2 : Hid (∀ x, x ∉ run → up s1.prv v la x = s.prv x) := by
          intro x hx
          rw [up_other _ _ _ _ (fun e => hx (by rw [e]; exact hvr))]
          exact hpp.out x hx
        have HV := bhid hv
        clear hv A1 A2 hch hnn hpp hla hvr
        go_wp2_with fail
        go_region_held3 (fun w' => w'.cell? ⟨q.b, 1, none⟩ = some (.slice (some ⟨q.bn, 0, none⟩) (q.n + 1) (q.n + 1)) ∧ w'.cell? ⟨q.b, 2, none⟩ = some (.slice (some ⟨q.bp, 0, none⟩) (q.n + 1) (q.n + 1))) (first | exact S0.out | exact S1.out | exact S2.out) (fail)
        go_wp2
        go_roundw
        case rel => exact ⟨k + 1, v, _, by omega, rfl, by go_num, hla2, MA.out.drew, hlab, hch2, hnn2, hpp2, KA.out.drew⟩
        case measure => simp [intOf]; omega
      · obtain rfl : k = run.length := by omega
        obtain ⟨low, hlow⟩ : ∃ low, s.lab a = low := ⟨_, rfl⟩
        obtain ⟨high, hhigh⟩ : ∃ hi, (if f = q.n then 9223372036854775808 else s.lab f) = hi := ⟨_, rfl⟩
        have hlb : low < 9223372036854775808 := by
          rw [← hlow]
          have := HPA.out
          simp at this
          rcases this with r | r
          · rw [r, G.out.l0]; omega
          · exact G.out.lb a (by simp [r])
        have hfm : f = q.n ∨ f ∈ qq := by
          have : f ∈ qq ++ [q.n] := by rw [HQ.out]; simp
          simp at this
          rcases this with r | r
          · exact .inr r
          · exact .inl r
        have hhb : high ≤ 9223372036854775808 := by
          rw [← hhigh]; split
          · omega
          · rename_i hf
            rcases hfm with r | r
            · exact absurd r hf
            · exact Nat.le_of_lt (G.out.lb f (by simp [r]))
        have hlh : low < high := by
          rw [← hhigh]; split
          · exact hlb
          · rename_i hf
            rcases hfm with r | r
            · exact absurd r hf
            · rw [← hlow]
              have hi := G.out.inc
              rw [← List.cons_append] at hi
              exact (List.pairwise_append.1 hi).2.2 a HPA.out f r
        obtain ⟨gap, hgap⟩ : ∃ g, (high - low) / (run.length + 1) = g := ⟨_, rfl⟩
        have e5 : ((high : Int) - (low : Int)) / ((run.length : Int) + 1) = (gap : Int) := by
          rw [← hgap, show (high : Int) - (low : Int) = ((high - low : Nat) : Int) from by omega]; simp
        have hgs : Hid (low + (run.length + 1) * gap ≤ high) := by
          have := Nat.mul_div_le (high - low) (run.length + 1)
          rw [hgap] at this
          show low + (run.length + 1) * gap ≤ high
          omega
        have A1 := M.out.setn ok la f
        have A2 := A1.setp ok f la
        have x2 := M.out.x la hlaq
        have t2 := A1.p f (by omega)
        have f1 : ∀ i, wr.frozen? ⟨q.bn, i, none⟩ = false := M.out.rn.free
        have f2 : ∀ i, wr.frozen? ⟨q.bp, i, none⟩ = false := M.out.rp.free
        have KA := (K.out.set q.bn la (.int .i64 (f : Int)) (by simp)).set q.bp f (.int .i64 (la : Int)) (by simp)
        have KA' := bhid KA.drew
        have MA := bhid A2.drew
        have S0 := bhid (p := wr.cell? ⟨q.b, 1, none⟩ = some (.slice (some ⟨q.bn, 0, none⟩) (q.n + 1) (q.n + 1)) ∧ wr.cell? ⟨q.b, 2, none⟩ = some (.slice (some ⟨q.bp, 0, none⟩) (q.n + 1) (q.n + 1))) ⟨M.out.c1, M.out.c2⟩
        have S1 := bhid (p := (wr.setCell ⟨q.bn, la, none⟩ (.int .i64 (f : Int))).cell? ⟨q.b, 1, none⟩ = some (.slice (some ⟨q.bn, 0, none⟩) (q.n + 1) (q.n + 1)) ∧ (wr.setCell ⟨q.bn, la, none⟩ (.int .i64 (f : Int))).cell? ⟨q.b, 2, none⟩ = some (.slice (some ⟨q.bp, 0, none⟩) (q.n + 1) (q.n + 1))) ⟨A1.c1, A1.c2⟩
        have S2 := bhid (p := ((wr.setCell ⟨q.bn, la, none⟩ (.int .i64 (f : Int))).setCell ⟨q.bp, f, none⟩ (.int .i64 (la : Int))).cell? ⟨q.b, 1, none⟩ = some (.slice (some ⟨q.bn, 0, none⟩) (q.n + 1) (q.n + 1)) ∧ ((wr.setCell ⟨q.bn, la, none⟩ (.int .i64 (f : Int))).setCell ⟨q.bp, f, none⟩ (.int .i64 (la : Int))).cell? ⟨q.b, 2, none⟩ = some (.slice (some ⟨q.bp, 0, none⟩) (q.n + 1) (q.n + 1))) ⟨A2.c1, A2.c2⟩
        have hch2 : Hid (Ch (up s1.nxt la f) (up s1.prv f la) (a :: run ++ [f])) := by
          have hz : (a :: run)[run.length]? = some la := hla.out
          have e1 : a :: run = (a :: run).take run.length ++ [la] := by
            have h1 : (a :: run).take (run.length + 1) = (a :: run).take run.length ++ [la] := by rw [List.take_add_one, hz]; rfl
            rw [← h1, List.take_of_length_le (by simp)]
          have nd : (a :: run).Nodup := List.nodup_cons.2 ⟨HAR.out, HRN.out⟩
          have hch' := hch.out
          rw [List.take_length] at hch'
          show Ch _ _ _
          generalize (a :: run).take run.length = L at e1
          have hfr : f ∉ run := by
            intro e
            rcases hfm with r | r
            · have := HRL.out f e; omega
            · exact (HRD.out f e).2 r
          have htl : (L ++ [la]).tail = run := by rw [← e1]; rfl
          rw [e1] at hch' nd ⊢
          rw [List.nodup_append] at nd
          exact Ch_snoc hch' (fun e => nd.2.2 la e la (by simp) rfl) (by rw [htl]; exact hfr)
        have hnn2 : Hid (∀ x, x ∉ a :: run → up s1.nxt la f x = s.nxt x) := by
          intro x hx
          rw [up_other _ _ _ _ (fun e => hx (by rw [e]; exact List.mem_of_getElem? hla.out))]
          exact hnn.out x hx
        have hpp2 : Hid (∀ x, x ∉ run ++ [f] → up s1.prv f la x = s.prv x) := by
          intro x hx
          simp at hx
          rw [up_other _ _ _ _ hx.2]
          exact hpp.out x hx.1
        have hsl : Hid (la = (a :: run).getD run.length 0) := by
          have hz : (a :: run)[run.length]? = some la := hla.out
          show la = _
          rw [List.getD_eq_getElem?_getD, hz]; rfl
        have HLOW := bhid hlow
        have HHIGH := bhid hhigh
        clear A1 A2 hch hnn hpp hla hlow hhigh hgap KA
        go_wp2_with fail
        go_region_held3 (fun w' => w'.cell? ⟨q.b, 1, none⟩ = some (.slice (some ⟨q.bn, 0, none⟩) (q.n + 1) (q.n + 1)) ∧ w'.cell? ⟨q.b, 2, none⟩ = some (.slice (some ⟨q.bp, 0, none⟩) (q.n + 1) (q.n + 1))) (first | exact S0.out | exact S1.out | exact S2.out) (fail)
        have A := MA.out
        have B := KA'.out
        have hw2 := True.intro
        clear MA KA' S0 S1 S2
        clear hw2
        generalize ((wr.setCell ⟨q.bn, la, none⟩ (.int .i64 (f : Int))).setCell ⟨q.bp, f, none⟩ (.int .i64 (la : Int))).drew = w2 at *
        have l1 := A.l a haq
        have l2 := A.l f hfq
        simp only at l1 l2
        rw [hlab.out] at l1 l2
        rw [HLOW.out] at l1
        have d0 := A.c0
        by_cases hfn : f = q.n
        case' pos =>
          have hne : ((f : Int) != (q.n : Int)) = false := by rw [hfn]; simp
          have hh : high = 9223372036854775808 := by have := HHIGH.out; rw [if_pos hfn] at this; exact this.symm
          rw [hh, show (((9223372036854775808 : Nat)) : Int) = (9223372036854775808 : Int) from rfl] at e5
          have HH := bhid hh
          have HFN := bhid hfn
          clear hh hfn l2
        case' neg =>
          have hne : ((f : Int) != (q.n : Int)) = true := by simp; omega
          have hh : s.lab f = high := by have := HHIGH.out; rw [if_neg hfn] at this; exact this
          rw [hh] at l2
          clear hh hfn
        all_goals
          have MA := bhid A
          have KA := bhid B
          clear A B
          by_cases hgp : 0 < gap
          · have hgp' : (0 : Int) < gap := by omega
            rw [← e5] at hgp'
            go_wp2_with fail
            rw [e5]
            go_loopw [99] (fun i wr => ∃ (t : Nat) (s' : OL), t ≤ run.length ∧ i = .int .i64 t ∧ Hid (OM q s' wr) ∧ Hid (s'.nxt = up s1.nxt la f) ∧ Hid (s'.prv = up s1.prv f la) ∧ Hid (∀ i v, i < t → run[i]? = some v → s'.lab v = low + (i + 1) * gap) ∧ Hid (∀ x, x ∉ run → s'.lab x = s.lab x) ∧ Hid (K3 q w wr)) (fun i _ => run.length - (intOf i).toNat)
            case atStart => exact ⟨0, _, Nat.zero_le _, rfl, MA, rfl, rfl, fun i v hi => absurd hi (Nat.not_lt_zero _), fun x _ => by show s1.lab x = s.lab x; rw [hlab.out], KA⟩
            case round =>
              clear MA KA
              obtain ⟨t, s2, ht, rfl, M2, hn2, hp2, hl2, ho2, K2⟩ := hrel
              by_cases htl : t < run.length
              · have hti : (t : Int) < run.length := by omega
                obtain ⟨v, hv⟩ : ∃ v, run[t]? = some v := ⟨run[t], List.getElem?_eq_getElem htl⟩
                have hcell := HAT.out.k3 K2.out hbr.1 hbr.2.1 hbr.2.2 t v hv
                have hvr : v ∈ run := List.mem_of_getElem? hv
                have hvq : v < q.n := HRL.out v hvr
                have hvi : (v : Int) < q.n + 1 := by omega
                obtain ⟨ts, hts⟩ : ∃ ts, (t + 1) * gap = ts := ⟨_, rfl⟩
                have hts1 : low + ts ≤ high := by
                  have h1 : (t + 1) * gap ≤ (run.length + 1) * gap := Nat.mul_le_mul_right gap (by omega)
                  have h2 := hgs.out
                  omega
                obtain ⟨u, hu⟩ : ∃ u, low + ts = u := ⟨_, rfl⟩
                have e6 : ((t : Int) + 1) * (gap : Int) = (ts : Int) := by rw [← hts]; simp
                have e7 : (low : Int) + (ts : Int) = (u : Int) := by omega
                have d0 := M2.out.c0
                have y0 := M2.out.l v (by omega)
                have fr : ∀ i, wr.frozen? ⟨q.bl, i, none⟩ = false := M2.out.rl.free
                have MA := bhid (M2.out.setl ok v u)
                have KA := bhid (K2.out.set q.bl v (.int .u64 (u : Int)) (by simp))
                have hl3 : Hid (∀ i v', i < t + 1 → run[i]? = some v' → up s2.lab v u v' = low + (i + 1) * gap) := by
                  intro i v' hi hv'
                  by_cases e : i = t
                  · rw [e] at hv'
                    rw [hv] at hv'
                    simp at hv'
                    rw [← hv', up_same, e, hts, hu]
                  · have hnv : v' ≠ v := by
                      intro e'
                      rw [e'] at hv'
                      have hil : i < run.length := by omega
                      have h1 := List.pairwise_iff_getElem.1 HRN.out i t hil htl (by omega)
                      rw [List.getElem?_eq_getElem hil] at hv'
                      rw [List.getElem?_eq_getElem htl] at hv
                      simp at hv hv'
                      exact h1 (by rw [hv, hv'])
                    rw [up_other _ _ _ _ hnv]
                    exact hl2.out i v' (by omega) hv'
                have ho3 : Hid (∀ x, x ∉ run → up s2.lab v u x = s.lab x) := by
                  intro x hx
                  rw [up_other _ _ _ _ (fun e => hx (by rw [e]; exact hvr))]
                  exact ho2.out x hx
                have HTS := bhid hts
                have HU := bhid hu
                clear hts hu hv hvr hl2 ho2
                go_wp2
                go_roundw
                case rel => exact ⟨t + 1, _, by omega, by go_num, MA, hn2, hp2, hl3, ho3, KA⟩
                case measure => simp [intOf]; omega
              · obtain rfl : t = run.length := by omega
                go_wp2_with fail
                go_ret
                refine ⟨run.length, s2, rfl, fun e => by rw [e]; rfl, Nat.le_refl _, M2.out, ?_, K2.out⟩
                refine Good.gap (s := s) (gap := gap) (high := high) G.out HP.out HQ.out HRN.out HRL.out HRD.out HHIGH.out.symm hgp (by rw [HLOW.out]; exact hgs.out) (fun i v hv => by rw [HLOW.out]; exact hl2.out i v (by have := List.getElem?_eq_some_iff.1 hv; exact this.1) hv) ho2.out (by rw [hn2.out, hp2.out]; exact hch2.out) (by rw [hn2.out]; exact hnn2.out) (by rw [hp2.out]; exact hpp2.out)
          · have hgp' : (gap : Int) ≤ 0 := by omega
            rw [← e5] at hgp'
            have hring : Ring q.n (p ++ run ++ qq) (up s1.nxt la f) (up s1.prv f la) := G.out.ring.ins HP.out HQ.out HRN.out HRL.out HRD.out hch2.out hnn2.out hpp2.out
            have hst := steps (run := run) G.out HP.out
            have hpc := places (qq := qq) (run := run) HP.out
            have hzr := Ring.zr hring HLEN.out
            have X := b_relabel q ⟨s1.lab, up s1.nxt la f, up s1.prv f la⟩ w2 ok MA.out _ _ P.length (P.length + run.length) hzr (by omega) (by have := hpc.len; simp; omega) (by simp only; rw [hlab.out]; exact hst.hpl) (by simp only; rw [hlab.out]; exact hst.hsl) (by simp only; rw [hlab.out]; exact G.out.l0)
            simp only at X
            rw [hpc.za, hpc.zl, ← hsl.out, show P.length + run.length - P.length + 1 = run.length + 1 from by omega, show ((run.length + 1 : Nat) : Int) = (run.length : Int) + 1 from by omega] at X
            have HRING := bhid hring
            have HST := bhid hst
            have XX := bhid X
            clear hring hst hpc hzr X
            go_wp2_with fail
            refine Calls.mono XX.out ?_
            rintro e w' ⟨i, j, base, KK, sp, s', rfl, M', K', h1, h2, h3, h4, h5, h6, h7, h8, h9, h10, h11, h12, h13⟩
            have GG : Hid (Good q.n (p ++ run ++ qq) s') := Good.spread (s := ⟨s1.lab, up s1.nxt la f, up s1.prv f la⟩) HRING.out (by simp only; rw [hlab.out]; exact G.out.l0) h1 (by omega) h2 h3 (by simp only; rw [hlab.out]; exact HST.out.hpre) (by simp only; rw [hlab.out]; exact HST.out.hsuf) (by simp only; rw [hlab.out]; exact HST.out.hpl) (by simp only; rw [hlab.out]; exact HST.out.hsl) h4 h5 h6 h7 h8 h9 h10 h11 h12 h13
            have MM := bhid M'
            have KK' := bhid (KA.out.trans K')
            have hjr : run.length ≤ j - i + 1 := by omega
            clear h4 h5 h6 h7 h8 h9 h10 h11 h12 h13 M' K'
            go_wp2_with fail
            go_ret
            exact ⟨j - i + 1, s', rfl, fun e => absurd (by rw [e]; rfl) hrz, hjr, MM.out, GG.out, KK'.out⟩

end Go.Proofs.Ybulkawna
