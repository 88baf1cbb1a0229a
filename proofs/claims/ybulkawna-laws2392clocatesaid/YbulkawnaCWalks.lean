import Derived.Test.YbulkawnaC
namespace Go.Proofs.Ybulkawna
open Go.RowKit
set_option linter.unusedVariables false

theorem c_mod_bd (s t : Int) (h : 0 ≤ s) (ht : 1 ≤ t) : 0 ≤ s % t ∧ s % t < t := ⟨Int.emod_nonneg _ (by omega), Int.emod_lt_of_pos _ (by omega)⟩
theorem c_mul_bd (a t A T : Int) (ha : 0 ≤ a) (hA : a ≤ A) (ht : 0 ≤ t) (hT : t ≤ T) : 0 ≤ a * t ∧ a * t ≤ A * T :=
  ⟨Int.mul_nonneg ha ht, Int.mul_le_mul hA hT ht (by omega)⟩
theorem Grown.drewN {W w' : World} (h : Grown W w') (k : Nat) : Grown W (w'.drewN k) := h

set_option maxHeartbeats 1000000 in
theorem c_exact (a0 a1 a2 a3 a4 : Int) (h0 : 0 ≤ a0) (h0' : a0 ≤ 255) (h1 : 0 ≤ a1) (h1' : a1 ≤ 65535) (h2 : 0 ≤ a2) (h2' : a2 ≤ 255) (h3 : 0 ≤ a3) (h3' : a3 ≤ 65535) (h4 : 0 ≤ a4) (h4' : a4 ≤ 65535) (w : World) :
    Calls Yba.prog 8 #[.int .u8 a0, .int .u16 a1, .int .u8 a2, .int .u16 a3, .int .u16 a4] w fun e w' => e = .returned (.bool true) ∧ Grown w w' := by
  obtain ⟨n, rfl⟩ := Int.eq_ofNat_of_zero_le h0
  generalize ht : a1 % 1000 + 1 = t
  have ht1 : 1 ≤ t := by omega
  have ht2 : t ≤ 1000 := by omega
  have HT : Hid (a1 % 1000 + 1 = t) := ht
  clear ht
  obtain ⟨hs, hs'⟩ := c_mod_bd a4 t h4 ht1
  have hs'' : a4 % t ≤ 1000 := by omega
  have hu : 0 ≤ a3 % 300 ∧ a3 % 300 ≤ 300 := by omega
  have e0 := c_mul_bd (a3 % 300) t 300 1000 hu.1 hu.2 (by omega) ht2
  have e1 := c_mul_bd (n : Int) t 300 1000 h0 (by omega) (by omega) ht2
  have e2 := c_mul_bd ((n : Int) + 1) t 300 1000 (by omega) (by omega) (by omega) ht2
  obtain ⟨e01, e02⟩ := e0
  obtain ⟨e11, e12⟩ := e1
  obtain ⟨e21, e22⟩ := e2
  obtain ⟨hu1, hu2⟩ := hu
  have hf : a2 % 3 = 0 ∨ a2 % 3 = 1 ∨ a2 % 3 = 2 := by omega
  rcases hf with hf | hf | hf
  · go_enter Yba.func8, Yba.ntmps8
    go_wp2_with fail
    refine (c_build n a1 (by omega) (by omega) h1 h1' _).mono ?_
    rw [HT.out]
    rintro e w' ⟨b, bp, bu, rfl, k0, k1, k2, hg⟩
    simp only [Int.toNat_natCast] at k2
    go_wp2_with fail
    refine (c_thread0 b bp bu n _ t _ _ hu1 hu2 ht1 ht2 hs hs'' e01 e02 k0 k1).mono ?_
    rintro e w'' ⟨rfl, rfl⟩
    go_wp2
    go_ret
    exact ⟨by simp, hg⟩
  · go_enter Yba.func8, Yba.ntmps8
    go_wp2_with fail
    refine (c_build n a1 (by omega) (by omega) h1 h1' _).mono ?_
    rw [HT.out]
    rintro e w' ⟨b, bp, bu, rfl, k0, k1, k2, hg⟩
    simp only [Int.toNat_natCast] at k2
    go_wp2_with fail
    refine (c_thread1 b bp bu n _ t _ _ (by omega) ht1 ht2 hs hs'' e11 e12 k0 k1 k2).mono ?_
    rintro e w'' ⟨rfl, rfl⟩
    go_wp2
    go_ret
    exact ⟨by simp, hg⟩
  · go_enter Yba.func8, Yba.ntmps8
    go_wp2_with fail
    refine (c_build n a1 (by omega) (by omega) h1 h1' _).mono ?_
    rw [HT.out]
    rintro e w' ⟨b, bp, bu, rfl, k0, k1, k2, hg⟩
    simp only [Int.toNat_natCast] at k2
    go_wp2_with fail
    refine (c_thread2 b bp bu n _ t _ _ (by omega) ht1 ht2 hs hs'' e21 e22 k0 k1 k2).mono ?_
    rintro e w'' ⟨rfl, rfl⟩
    go_wp2
    go_ret
    exact ⟨by simp, hg⟩

theorem c_divmod (row t s : Int) (ht : 1 ≤ t) (hs : 0 ≤ s) (hs' : s < t) : (row * t + s) / t = row ∧ (row * t + s) % t = s := by
  constructor
  · rw [Int.add_comm, Int.add_mul_ediv_right _ _ (by omega), Int.ediv_eq_zero_of_lt hs hs']; omega
  · rw [Int.add_comm, Int.add_mul_emod_self_right]; exact Int.emod_eq_of_lt hs hs'

set_option maxHeartbeats 2000000 in
theorem c_locates (a0 a1 a2 a3 a4 : Int) (h0 : 0 ≤ a0) (h0' : a0 ≤ 255) (h1 : 0 ≤ a1) (h1' : a1 ≤ 65535) (h2 : 0 ≤ a2) (h2' : a2 ≤ 255) (h3 : 0 ≤ a3) (h3' : a3 ≤ 65535) (h4 : 0 ≤ a4) (h4' : a4 ≤ 65535) (w : World) :
    Calls Yba.prog 7 #[.int .u8 a0, .int .u16 a1, .int .u8 a2, .int .u16 a3, .int .u16 a4] w fun e w' => e = .returned (.bool true) ∧ Grown w w' := by
  obtain ⟨n, rfl⟩ := Int.eq_ofNat_of_zero_le h0
  generalize ht : a1 % 1000 + 1 = t
  have ht1 : 1 ≤ t := by omega
  have ht2 : t ≤ 1000 := by omega
  have HT : Hid (a1 % 1000 + 1 = t) := ht
  clear ht
  obtain ⟨hs, hs'⟩ := c_mod_bd a4 t h4 ht1
  have hs'' : a4 % t ≤ 1000 := by omega
  have e1 := c_mul_bd (n : Int) t 300 1000 h0 (by omega) (by omega) ht2
  have e2 := c_mul_bd ((n : Int) + 1) t 300 1000 (by omega) (by omega) (by omega) ht2
  obtain ⟨e11, e12⟩ := e1
  obtain ⟨e21, e22⟩ := e2
  have hf : a2 % 3 = 0 ∨ a2 % 3 = 1 ∨ a2 % 3 = 2 := by omega
  rcases hf with hf | hf | hf
  · by_cases hn : n = 0
    · have hn0 : ((n : Int) == 0) = true := by simp [hn]
      have hn1 : (n : Int) ≤ 0 := by omega
      clear hn
      go_enter Yba.func7, Yba.ntmps7
      go_wp2_with fail
      refine (c_build n a1 (by omega) (by omega) h1 h1' _).mono ?_
      rw [HT.out]
      rintro e w' ⟨b, bp, bu, rfl, k0, k1, k2, hg⟩
      simp only [Int.toNat_natCast] at k2
      go_wp2_with fail
      refine (c_thread1 b bp bu n _ t _ _ (by omega) ht1 ht2 hs hs'' e11 e12 k0 k1 k2).mono ?_
      rintro e w'' ⟨rfl, rfl⟩
      have D := c_divmod n t (a4 % t) ht1 hs hs'
      have D1 : Hid _ := D.1; have D2 : Hid _ := D.2; clear D
      go_wp2_with fail
      refine (c_locate b bp bu n _ t n (a4 % t) _ (by omega) ht1 ht2 (by omega) (by omega) D1.out D2.out (by omega) (by omega) k0 k1 k2).mono ?_
      rintro e w3 ⟨rfl, k, rfl⟩
      simp only [Int.lt_irrefl, if_false, if_true]
      go_wp2
      go_ret
      exact ⟨by simp, Grown.drewN hg k⟩
    · have hn0 : ((n : Int) == 0) = false := by simp [hn]
      have hn1 : 1 ≤ (n : Int) := by omega
      clear hn
      obtain ⟨hu, hu'⟩ := c_mod_bd a3 n h3 hn1
      have e0 := c_mul_bd (a3 % n) t 300 1000 hu (by omega) (by omega) ht2
      obtain ⟨e01, e02⟩ := e0
      go_enter Yba.func7, Yba.ntmps7
      go_wp2_with fail
      refine (c_build n a1 (by omega) (by omega) h1 h1' _).mono ?_
      rw [HT.out]
      rintro e w' ⟨b, bp, bu, rfl, k0, k1, k2, hg⟩
      simp only [Int.toNat_natCast] at k2
      go_wp2_with fail
      refine (c_thread0 b bp bu n _ t _ _ hu (by omega) ht1 ht2 hs hs'' e01 e02 k0 k1).mono ?_
      rintro e w'' ⟨rfl, rfl⟩
      have D := c_divmod (a3 % n) t (a4 % t) ht1 hs hs'
      have D1 : Hid _ := D.1; have D2 : Hid _ := D.2; clear D
      go_wp2_with fail
      refine (c_locate b bp bu n _ t (a3 % n) (a4 % t) _ (by omega) ht1 ht2 (by omega) (by omega) D1.out D2.out (by omega) (by omega) k0 k1 k2).mono ?_
      rintro e w3 ⟨rfl, k, rfl⟩
      simp only [hu', if_true]
      go_wp2
      go_ret
      exact ⟨by simp, Grown.drewN hg k⟩
  · go_enter Yba.func7, Yba.ntmps7
    go_wp2_with fail
    refine (c_build n a1 (by omega) (by omega) h1 h1' _).mono ?_
    rw [HT.out]
    rintro e w' ⟨b, bp, bu, rfl, k0, k1, k2, hg⟩
    simp only [Int.toNat_natCast] at k2
    go_wp2_with fail
    refine (c_thread1 b bp bu n _ t _ _ (by omega) ht1 ht2 hs hs'' e11 e12 k0 k1 k2).mono ?_
    rintro e w'' ⟨rfl, rfl⟩
    have D := c_divmod n t (a4 % t) ht1 hs hs'
    have D1 : Hid _ := D.1; have D2 : Hid _ := D.2; clear D
    go_wp2_with fail
    refine (c_locate b bp bu n _ t n (a4 % t) _ (by omega) ht1 ht2 (by omega) (by omega) D1.out D2.out (by omega) (by omega) k0 k1 k2).mono ?_
    rintro e w3 ⟨rfl, k, rfl⟩
    simp only [Int.lt_irrefl, if_false, if_true]
    go_wp2
    go_ret
    exact ⟨by simp, Grown.drewN hg k⟩
  · go_enter Yba.func7, Yba.ntmps7
    go_wp2_with fail
    refine (c_build n a1 (by omega) (by omega) h1 h1' _).mono ?_
    rw [HT.out]
    rintro e w' ⟨b, bp, bu, rfl, k0, k1, k2, hg⟩
    simp only [Int.toNat_natCast] at k2
    go_wp2_with fail
    refine (c_thread2 b bp bu n _ t _ _ (by omega) ht1 ht2 hs hs'' e21 e22 k0 k1 k2).mono ?_
    rintro e w'' ⟨rfl, rfl⟩
    have D := c_divmod ((n : Int) + 1) t (a4 % t) ht1 hs hs'
    have D1 : Hid _ := D.1; have D2 : Hid _ := D.2; clear D
    go_wp2_with fail
    refine (c_locate b bp bu n _ t ((n : Int) + 1) (a4 % t) _ (by omega) ht1 ht2 (by omega) (by omega) D1.out D2.out (by omega) (by omega) k0 k1 k2).mono ?_
    rintro e w3 ⟨rfl, k, rfl⟩
    have q1 : ¬ ((n : Int) + 1 < n) := by omega
    have q2 : ¬ ((n : Int) + 1 = n) := by omega
    simp only [q1, q2, if_false]
    go_wp2
    go_ret
    exact ⟨by simp, Grown.drewN hg k⟩

end Go.Proofs.Ybulkawna
