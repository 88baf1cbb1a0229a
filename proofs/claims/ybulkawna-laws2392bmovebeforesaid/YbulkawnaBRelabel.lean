import Derived.Test.YbulkawnaBArith
namespace Go.Proofs.Ybulkawna
open Go.RowKit B
set_option linter.unusedVariables false

/-- The ring by places. -/
structure ZR (q : OB) (nxt prv : Nat → Nat) (z : Nat → Nat) (m : Nat) : Prop where
  z0 : z 0 = q.n
  zlt : ∀ k, 1 ≤ k → k ≤ m → z k < q.n
  zn : ∀ k, k < m → nxt (z k) = z (k + 1)
  zl : nxt (z m) = q.n
  zp : ∀ k, k < m → prv (z (k + 1)) = z k
  inj : ∀ a b, a ≤ m → b ≤ m → z a = z b → a = b
  hm : m ≤ q.n

theorem ZR.le {q : OB} {nxt prv z : Nat → Nat} {m : Nat} (h : ZR q nxt prv z m) (k : Nat) (hk : k ≤ m) : z k ≤ q.n := by
  by_cases e : k = 0
  · rw [e, h.z0]; exact Nat.le_refl _
  · have := h.zlt k (by omega) hk; omega

theorem Af_big_all : ((List.range 256).all fun c => !(FloatKind.f64.format.order (floatOfInt .f64 (c : Int)) (Af 63) == some .gt)) = true := by kernel_rfl
theorem Af_big (c : Nat) (hc : c ≤ 203) : ¬ (FloatKind.f64.format.order (floatOfInt .f64 (c : Int)) (Af 63) = some .gt) := by
  have h := List.all_eq_true.1 Af_big_all c (List.mem_range.2 (by omega))
  intro e
  rw [e] at h
  exact absurd h (by decide)

set_option maxHeartbeats 1000000 in
set_option maxRecDepth 100000 in
theorem b_relabel (q : OB) (s : OL) (w : World) (ok : OBok q) (h : OM q s w) (z : Nat → Nat) (m p r0 : Nat) (hz : ZR q s.nxt s.prv z m) (hp : p < r0) (hr : r0 ≤ m)
    (hpl : ∀ a, a ≤ p → s.lab (z a) < 9223372036854775808) (hsl : ∀ a, r0 < a → a ≤ m → s.lab (z a) < 9223372036854775808) (l0 : s.lab q.n = 0) :
    Calls Yba.prog 31 #[.pointer (some ⟨q.b, 0, none⟩), .int .i64 (z p), .int .i64 (z r0), .int .i64 ((r0 - p + 1 : Nat) : Int)] w fun e w' =>
      ∃ (i j base K sp : Nat) (s' : OL), e = .returned (.int .i64 ((j - i + 1 : Nat) : Int)) ∧ OM q s' w' ∧ K3 q w w' ∧ i ≤ p ∧ r0 ≤ j ∧ j ≤ m ∧ (i = 0 ∨ s.lab (z (i - 1)) < base) ∧ (j = m ∨ base + K ≤ s.lab (z (j + 1))) ∧ 1 ≤ sp ∧ (j - i + 1) * sp ≤ K ∧
        base + K ≤ 9223372036854775808 ∧ (i = 0 → base = 0) ∧ s'.nxt = s.nxt ∧ s'.prv = s.prv ∧ (∀ t, t ≤ j - i → s'.lab (z (i + t)) = base + t * sp) ∧ (∀ x, (∀ t, t ≤ j - i → x ≠ z (i + t)) → s'.lab x = s.lab x) := by
  have hn := ok.hn.2
  have hmn := hz.hm
  obtain ⟨low, hlow⟩ : ∃ low, s.lab (z p) = low := ⟨_, rfl⟩
  have hlowb : low < 9223372036854775808 := by rw [← hlow]; exact hpl p (Nat.le_refl _)
  have c1 := h.c1
  have c0 := h.c0
  have hzp : z p ≤ q.n := hz.le p (by omega)
  have x0 : w.cell? ⟨q.bl, z p, none⟩ = some (.int .u64 (low : Int)) := by rw [← hlow]; exact h.l (z p) hzp
  have hzpi : (z p : Int) < q.n + 1 := by omega
  obtain ⟨c00, hc00⟩ : ∃ c, r0 - p + 1 = c := ⟨_, rfl⟩
  have hc0b : c00 ≤ 202 := by omega
  have HC := bhid hc00
  have H := bhid h
  have HZ := bhid hz
  have HL := bhid hlow
  have HPL := bhid hpl
  have HSL := bhid hsl
  have L0 := bhid l0
  rw [hc00]
  clear h hz hlow hpl hsl l0 hc00
  go_enter Yba.func31, Yba.ntmps31
  go_wp2_with fail
  go_loopw [1, 2, 3, 11, 12] (fun f l c a b wr => ∃ i j cc k F : Nat, f = .int .i64 (z i) ∧ l = .int .i64 (z j) ∧ c = .int .i64 cc ∧ a = .float .f64 F ∧ b = .int .i64 ((k : Int) + 1) ∧ k ≤ 62 ∧ i ≤ p ∧ r0 ≤ j ∧ j ≤ m ∧ Hid (F = Af k) ∧ Hid (cc + i = j + 1) ∧ Hid (i = 0 → low < 2 ^ (k + 1)) ∧ Hid (OM q s wr) ∧ Hid (K3 q w wr))
    (fun _ _ _ _ b _ => 64 - (intOf b).toNat)
  case atStart => exact ⟨p, r0, c00, 0, _, rfl, rfl, rfl, rfl, rfl, by omega, Nat.le_refl _, Nat.le_refl _, hr, rfl, by have := HC.out; show c00 + p = r0 + 1; omega, fun e => by have := HL.out; rw [e, HZ.out.z0, L0.out] at this; omega, H, K3.refl _ _⟩
  case round =>
    obtain ⟨i, j, cc, k, F, rfl, rfl, rfl, rfl, rfl, hk, hi, hj, hjm, hF, hcc, hi0, M, K⟩ := hrel
    obtain ⟨E, hE⟩ : ∃ E, 2 ^ (k + 1) = E := ⟨_, rfl⟩
    obtain ⟨B, hB⟩ : ∃ B, low - low % 2 ^ (k + 1) = B := ⟨_, rfl⟩
    obtain ⟨F', hF'⟩ : ∃ F', Af (k + 1) = F' := ⟨_, rfl⟩
    have hmul : ∀ w, (binOp .mul 123 (.float .f64 F) (.float .f64 4608683618675807573)).run Yba.prog w = .ok (.float .f64 F') w := by
      intro w; rw [hF.out, ← hF']; exact r_fmul k (by omega) w
    have hE63 : E ≤ 9223372036854775808 := by rw [← hE]; exact Nat.pow_le_pow_right (i := k + 1) (j := 63) (by omega) (by omega)
    have hE1 : 1 ≤ E := by rw [← hE]; exact Nat.one_le_two_pow
    have hrg := range_ok low (k + 1) hlowb (by omega)
    rw [hB, hE] at hrg
    have e1 : IntKind.u64.wrap ((2 : Int) ^ (k + 1)) = (E : Int) := by rw [r_shl (k + 1) (by omega), hE]
    have e2 : IntKind.u64.wrap ((E : Int) - 1) = (E : Int) - 1 := by exact IntWalk.u64_in _ (by omega)
    have e3 : bits .andNot .u64 (low : Int) ((E : Int) - 1) = (B : Int) := by rw [← hE, r_mask low (k + 1) hlowb (by omega), hB]
    have e4 : IntKind.u64.wrap ((B : Int) + (E : Int)) = (B : Int) + E := IntWalk.u64_in _ (by omega)
    obtain ⟨hrg1, hrg2, hrg3⟩ := hrg
    have HE := bhid hE
    have HBB := bhid hB
    have HF' := bhid hF'
    clear hE hB hF'
    go_wp2_with fail
    go_loopw [1, 3] (fun f c wr => ∃ i2 cd : Nat, f = .int .i64 (z i2) ∧ c = .int .i64 cd ∧ i2 ≤ i ∧ Hid (cd + i2 = j + 1) ∧ Hid (i2 = 0 → low < 2 ^ (k + 1)) ∧ Hid (OM q s wr) ∧ Hid (K3 q w wr)) (fun _ c _ => 400 - (intOf c).toNat)
    case atStart => exact ⟨i, cc, rfl, rfl, Nat.le_refl _, hcc, hi0, M, K⟩
    case round =>
      clear M K hcc hi0
      obtain ⟨i2, cd, rfl, rfl, hi2, hcd, hi20, M, K⟩ := hrel
      have hzi : z i2 ≤ q.n := HZ.out.le i2 (by omega)
      have hcdb : cd ≤ 202 := by have := hcd.out; omega
      by_cases hgo : i2 ≠ 0 ∧ B ≤ s.lab (z (i2 - 1))
      · obtain ⟨t, rfl⟩ : ∃ t, i2 = t + 1 := ⟨i2 - 1, by omega⟩
        obtain ⟨_, hge⟩ := hgo
        simp only [Nat.add_sub_cancel] at hge
        obtain ⟨la, hla⟩ : ∃ la, s.lab (z t) = la := ⟨_, rfl⟩
        have hzt : z t ≤ q.n := HZ.out.le t (by omega)
        have hzt' : (z t : Int) < q.n + 1 := by omega
        have hlt := HZ.out.zlt (t + 1) (by omega) (by omega)
        have hne : ((z (t + 1) : Int) != (q.n : Int)) = true := by simp; omega
        have d0 := M.out.c0
        have d2 := M.out.c2
        have y1 := M.out.p (z (t + 1)) hzi
        rw [HZ.out.zp t (by omega)] at y1
        have y2 := M.out.l (z t) hzt
        rw [hla] at y2 hge
        have hge' : decide ((B : Int) ≤ (la : Int)) = true := by simp; omega
        have hlt' : (z (t + 1) : Int) < q.n + 1 := by omega
        have hnx : Hid (t = 0 → low < 2 ^ (k + 1)) := by
          intro e
          rw [e, HZ.out.z0, L0.out] at hla
          exact zero_base low (k + 1) (by rw [HBB.out]; omega)
        have HLA := bhid hla
        clear hla
        go_wp2_with fail
        go_quiet (fail)
        go_wp2_with fail
        exact ⟨⟨t, cd + 1, rfl, by go_num, by omega, by have := hcd.out; show cd + 1 + t = j + 1; omega, hnx, M.out.drewN _, K.out.drewN _⟩, by simp [intOf]; omega⟩
      · have hstop : Hid (i2 = 0 ∨ s.lab (z (i2 - 1)) < B) := by
          show i2 = 0 ∨ s.lab (z (i2 - 1)) < B
          by_cases e0 : i2 = 0
          · exact .inl e0
          · exact .inr (by have : ¬ B ≤ s.lab (z (i2 - 1)) := fun e => hgo ⟨e0, e⟩; omega)
        have M1 := fun n => bhid (M.out.drewN n)
        have K1 := fun n => bhid (K.out.drewN n)
        clear hgo
        by_cases e0 : i2 = 0
        case' pos =>
          have hne : ((z i2 : Int) != (q.n : Int)) = false := by rw [e0, HZ.out.z0]; simp
          clear e0
          go_wp2_with fail
          go_quiet (fail)
          go_wp2_with fail
          clear hne
        case' neg =>
          obtain ⟨t, ht⟩ : ∃ t, i2 = t + 1 := ⟨i2 - 1, by omega⟩
          obtain ⟨la, hla⟩ : ∃ la, s.lab (z t) = la := ⟨_, rfl⟩
          have hzt : z t ≤ q.n := HZ.out.le t (by omega)
          have hzt' : (z t : Int) < q.n + 1 := by omega
          have hlt : z i2 < q.n := HZ.out.zlt i2 (by omega) (by omega)
          have hne : ((z i2 : Int) != (q.n : Int)) = true := by simp; omega
          have d0 := M.out.c0
          have d2 := M.out.c2
          have y1 := M.out.p (z i2) hzi
          rw [show s.prv (z i2) = z t from by rw [ht]; exact HZ.out.zp t (by omega)] at y1
          have y2 := M.out.l (z t) hzt
          have hge : la < B := by
            rcases hstop.out with r | r
            · omega
            · rw [← hla]; rw [ht] at r; exact r
          rw [hla] at y2
          have hge' : decide ((B : Int) ≤ (la : Int)) = false := by simp; omega
          have hlt' : (z i2 : Int) < q.n + 1 := by omega
          clear hla ht e0
          go_wp2_with fail
          go_quiet (fail)
          go_wp2_with fail
          clear hzt hzt' hlt hne d0 d2 y1 y2 hge hge' hlt'
        all_goals clear M K
        all_goals
          go_loopw [2, 3] (fun f c wr => ∃ j2 ce : Nat, f = .int .i64 (z j2) ∧ c = .int .i64 ce ∧ j ≤ j2 ∧ j2 ≤ m ∧ Hid (ce + i2 = j2 + 1) ∧ Hid (OM q s wr) ∧ Hid (K3 q w wr)) (fun _ c _ => 400 - (intOf c).toNat)
          case atStart => exact ⟨j, cd, rfl, rfl, Nat.le_refl _, hjm, hcd, M1 _, K1 _⟩
          case round =>
            clear M1 K1 hcd
            obtain ⟨j2, ce, rfl, rfl, hj2, hj2m, hce, M, K⟩ := hrel
            have hzj : z j2 ≤ q.n := HZ.out.le j2 (by omega)
            have hzj' : (z j2 : Int) < q.n + 1 := by omega
            have hceb : ce ≤ 202 := by have := hce.out; omega
            by_cases hgo : j2 < m ∧ s.lab (z (j2 + 1)) < B + E
            · obtain ⟨hlm, hge⟩ := hgo
              obtain ⟨la, hla⟩ : ∃ la, s.lab (z (j2 + 1)) = la := ⟨_, rfl⟩
              have hlt := HZ.out.zlt (j2 + 1) (by omega) (by omega)
              have hne : ((z (j2 + 1) : Int) != (q.n : Int)) = true := by simp; omega
              have d0 := M.out.c0
              have d1 := M.out.c1
              have y1 := M.out.x (z j2) hzj
              rw [HZ.out.zn j2 hlm] at y1
              have y2 := M.out.l (z (j2 + 1)) (by omega)
              rw [hla] at y2 hge
              have hge' : decide ((la : Int) < (B : Int) + (E : Int)) = true := by simp; omega
              have hlt' : (z (j2 + 1) : Int) < q.n + 1 := by omega
              clear hla
              go_wp2_with fail
              go_quiet (fail)
              go_wp2_with fail
              exact ⟨⟨j2 + 1, ce + 1, rfl, by go_num, by omega, by omega, by have := hce.out; show ce + 1 + i2 = j2 + 1 + 1; omega, M.out.drewN _, K.out.drewN _⟩, by simp [intOf]; omega⟩
            · have hstop2 : Hid (j2 = m ∨ B + E ≤ s.lab (z (j2 + 1))) := by
                show j2 = m ∨ B + E ≤ s.lab (z (j2 + 1))
                by_cases e0 : j2 = m
                · exact .inl e0
                · exact .inr (by have : ¬ s.lab (z (j2 + 1)) < B + E := fun e => hgo ⟨by omega, e⟩; omega)
              have M1 := fun n => bhid (M.out.drewN n)
              have K1 := fun n => bhid (K.out.drewN n)
              have d0 := M.out.c0
              have d1 := M.out.c1
              have y1 := M.out.x (z j2) hzj
              clear hgo
              by_cases e0 : j2 = m
              case' pos =>
                have hne : ((q.n : Int) != (q.n : Int)) = false := by simp
                rw [show s.nxt (z j2) = q.n from by rw [e0]; exact HZ.out.zl] at y1
                clear e0
                go_wp2_with fail
                go_quiet (fail)
                clear hne y1
              case' neg =>
                rw [HZ.out.zn j2 (by omega)] at y1
                obtain ⟨la, hla⟩ : ∃ la, s.lab (z (j2 + 1)) = la := ⟨_, rfl⟩
                have hlt := HZ.out.zlt (j2 + 1) (by omega) (by omega)
                have hne : ((z (j2 + 1) : Int) != (q.n : Int)) = true := by simp; omega
                have y2 := M.out.l (z (j2 + 1)) (by omega)
                have hge : B + E ≤ la := by
                  rcases hstop2.out with r | r
                  · omega
                  · rw [← hla]; exact r
                rw [hla] at y2
                have hge' : decide ((la : Int) < (B : Int) + (E : Int)) = false := by simp; omega
                have hlt' : (z (j2 + 1) : Int) < q.n + 1 := by omega
                clear hla e0
                go_wp2_with fail
                go_quiet (fail)
                clear hlt hne y1 y2 hge hge' hlt'
              all_goals clear M K d0 d1
              all_goals
                have hce0 : ¬ ce = 0 := by have := hce.out; omega
                by_cases hgt : FloatKind.f64.format.order (floatOfInt FloatKind.f64 (ce : Int)) F' = some Ordering.gt
                · have hk62 : k < 62 := by
                    have : k ≠ 62 := fun e => Af_big ce (by omega) (by have h' := HF'.out; rw [e] at h'; rw [h']; exact hgt)
                    omega
                  have hk2 : (k : Int) + 1 < 63 := by omega
                  go_wp2_with fail
                  exact ⟨⟨i2, j2, ce, k + 1, F', rfl, rfl, rfl, rfl, by go_num, by omega, by omega, by omega, hj2m, HF'.out.symm, hce, fun e => Nat.lt_of_lt_of_le (hi20.out e) (Nat.pow_le_pow_right (by omega) (by omega)), M1 _, K1 _⟩, by simp [intOf]; omega⟩
                · obtain ⟨sp, hsp⟩ : ∃ sp, E / ce = sp := ⟨_, rfl⟩
                  have e5 : ((B : Int) + (E : Int) - (B : Int)) / (ce : Int) = (sp : Int) := by
                    rw [show (B : Int) + (E : Int) - (B : Int) = (E : Int) from by omega, ← hsp]; simp
                  have hfit : ce ≤ E := by
                    rw [← HE.out]
                    refine Af_fits (k + 1) ce (by omega) (by omega) ?_
                    rw [HF'.out]
                    simpa using hgt
                  have hsp1 : 1 ≤ sp := by rw [← hsp]; exact Nat.div_pos hfit (by omega)
                  have hspE : ce * sp ≤ E := by rw [← hsp]; exact Nat.mul_div_le E ce
                  have HSP := bhid hspE
                  clear hsp hspE
                  go_wp2_with fail
                  rw [e5]
                  go_loopw [16, 17] (fun a v wr => ∃ (t x : Nat) (s' : OL), a = .int .i64 t ∧ v = .int .i64 x ∧ t ≤ ce ∧ Hid (t < ce → x = z (i2 + t)) ∧ Hid (OM q s' wr) ∧ Hid (K3 q w wr) ∧ Hid (s'.nxt = s.nxt) ∧ Hid (s'.prv = s.prv) ∧ Hid (∀ u, u < t → s'.lab (z (i2 + u)) = B + u * sp) ∧ Hid (∀ y, (∀ u, u < t → y ≠ z (i2 + u)) → s'.lab y = s.lab y)) (fun a _ _ => 400 - (intOf a).toNat)
                  case atStart => exact ⟨0, z i2, s, rfl, rfl, Nat.zero_le _, fun _ => rfl, M1 _, K1 _, rfl, rfl, fun u hu => absurd hu (Nat.not_lt_zero _), fun _ _ => rfl⟩
                  case round =>
                    clear M1 K1
                    obtain ⟨t, x, s', rfl, rfl, ht, hx, M, K, hnx, hpx, hlb, hot⟩ := hrel
                    by_cases htc : t < ce
                    · obtain rfl : x = z (i2 + t) := hx.out htc
                      clear hx
                      have hie := hce.out
                      have hzx : z (i2 + t) ≤ q.n := HZ.out.le (i2 + t) (by omega)
                      have hzx' : (z (i2 + t) : Int) < q.n + 1 := by omega
                      obtain ⟨y, hy⟩ : ∃ y, s.nxt (z (i2 + t)) = y := ⟨_, rfl⟩
                      have hyz : Hid (t + 1 < ce → y = z (i2 + (t + 1))) := by
                        intro e; rw [← hy, HZ.out.zn (i2 + t) (by omega)]; rfl
                      obtain ⟨ts, hts⟩ : ∃ ts, t * sp = ts := ⟨_, rfl⟩
                      have hts1 : ts ≤ E := by
                        rw [← hts]; exact Nat.le_trans (Nat.mul_le_mul_right sp (Nat.le_of_lt htc)) HSP.out
                      obtain ⟨v, hv⟩ : ∃ v, B + ts = v := ⟨_, rfl⟩
                      have e6 : (t : Int) * (sp : Int) = (ts : Int) := by rw [← hts]; simp
                      have e7 : (B : Int) + (ts : Int) = (v : Int) := by omega
                      have d0 := M.out.c0
                      have y0 := M.out.l (z (i2 + t)) hzx
                      have fr : ∀ i, wr.frozen? ⟨q.bl, i, none⟩ = false := M.out.rl.free
                      have A := M.out.setl ok (z (i2 + t)) v
                      have d1 := A.c1
                      have y1 := A.x (z (i2 + t)) hzx
                      simp only at y1
                      rw [hnx.out, hy] at y1
                      have htci : (t : Int) < ce := by omega
                      have MA := bhid A
                      have KA := bhid (K.out.set q.bl (z (i2 + t)) (.int .u64 (v : Int)) (by simp))
                      have hlb2 : Hid (∀ u, u < t + 1 → up s'.lab (z (i2 + t)) v (z (i2 + u)) = B + u * sp) := by
                        intro u hu
                        by_cases e : u = t
                        · rw [e, up_same, hts, hv]
                        · rw [up_other _ _ _ _ (fun e' => e (by have := HZ.out.inj (i2 + u) (i2 + t) (by omega) (by omega) e'; omega))]
                          exact hlb.out u (by omega)
                      have hot2 : Hid (∀ y, (∀ u, u < t + 1 → y ≠ z (i2 + u)) → up s'.lab (z (i2 + t)) v y = s.lab y) := by
                        intro y hy
                        rw [up_other _ _ _ _ (hy t (by omega))]
                        exact hot.out y (fun u hu => hy u (by omega))
                      have HTS := bhid hts
                      have HV := bhid hv
                      clear hts hv hy hie A hlb hot
                      go_wp2_with fail
                      go_quiet (fail)
                      go_wp2_with fail
                      exact ⟨⟨t + 1, y, _, by go_num, rfl, htc, hyz, MA.out.drewN _, KA.out.drewN _, hnx, hpx, hlb2, hot2⟩, by simp [intOf]; omega⟩
                    · obtain rfl : t = ce := by omega
                      go_wp2_with fail
                      go_ret
                      have hie := hce.out
                      exact ⟨i2, j2, B, E, sp, s', by rw [show j2 - i2 + 1 = t from by omega]; rfl, M.out, K.out, by omega, by omega, hj2m, hstop.out, hstop2.out, hsp1, by have := HSP.out; rw [show j2 - i2 + 1 = t from by omega]; exact this, hrg3, fun e => by rw [← HBB.out]; exact base_zero low (k + 1) (hi20.out e), hnx.out, hpx.out, fun u hu => hlb.out u (by omega), fun y hy => hot.out y (fun u hu => hy u (by omega))⟩

end Go.Proofs.Ybulkawna
