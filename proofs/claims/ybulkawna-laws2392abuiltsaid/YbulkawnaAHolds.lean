import Derived.Test.YbulkawnaAParts
import Derived.BigQuiet
namespace Go.Proofs.Ybulkawna
open Go.RowKit
set_option linter.unusedVariables false

set_option maxHeartbeats 1000000 in
theorem a_holds_in (n bl bh L B b off len cap : Nat) (x : Bool) (xs : List Int) (w : World)
    (hL : L < B) (hB : B ≤ w.heap.size) (hxs : xs.length ≤ 8192) (hbl : bl < B) (hbl' : bl ≠ L) (hbh : bh < B) (hbh' : bh ≠ L) (hb : b < B) (hb' : b ≠ L)
    (hn : (n : Int) < len) (hlen : len ≤ 8192)
    (c1 : w.cell? ⟨bl, 0, none⟩ = some (.pointer (some ⟨L, 0, none⟩))) (c2 : w.cell? ⟨bh, 0, none⟩ = some (.slice (some ⟨b, off, none⟩) len cap))
    (c3 : w.cell? ⟨b, off + n, none⟩ = some (.bool x)) (hlog : Log L B xs w) :
    Calls Yba.prog 22 #[.int .i64 n, .pointer (some ⟨bl, 0, none⟩), .pointer (some ⟨bh, 0, none⟩)] w fun e w' =>
      e = .returned (.bool x) ∧ Log L B (xs ++ [(n : Int)]) w' ∧ Kept L B w w' := by
  obtain ⟨v, hv, hown⟩ := hlog
  have c4 := cell_of_one hv
  obtain ⟨i0, hi, hz0, hz1, hz2⟩ := info_parts a_info3
  have z1 : ∀ o, (w.alloc o).cell? ⟨L, 0, none⟩ = some v := fun o => (World.cell?_alloc_past _ _ _ (by omega)).trans c4
  have z2 : ∀ o, (w.alloc o).cell? ⟨bl, 0, none⟩ = some (.pointer (some ⟨L, 0, none⟩)) := fun o => (World.cell?_alloc_past _ _ _ (by omega)).trans c1
  have HV : Hid _ := hv
  have HOWN : Hid _ := hown
  clear hv hown
  go_enter Yba.func22, Yba.ntmps22
  go_wp2
  go_region_law (refine step_append_own rfl (.tmp 8) (.tmp 10) 31 rfl B 3 i0 (.int .i64 0) 1 8 Yba.underlying31 hi hz0 hz1 hz2 rfl (by decide) v xs.length (xs.map (Value.int .i64)) (by simp [Act.eval]) (Log.own HOWN _) ⟨w.heap.size, 0, none⟩ 1 1 [.int .i64 n] (by simp [Act.eval]) rfl (cell_one_new _ _ _) (by intro u hu; simp at hu; subst hu; rfl) (by unfold maxLen; omega) (by omega) (by simp; omega) ?_; intro v' w1 h1 hg; obtain ⟨k1, k2, ⟨g, cp, hvg⟩, k4, k5, k6⟩ := log_step hL hB HV.out HOWN.out h1 hg; subst hvg; have K4 : Hid _ := k4; have K5 : Hid _ := k5; have k7 := (k6 bl 0 hbl).trans c1; clear k4 k5 k6 h1 hg)
  all_goals
    have q1 := (K5.out.cell bh 0 hbh hbh').trans c2
    have q2 := (K5.out.cell b (off + n) hb hb').trans c3
    go_wp2
    go_ret
    exact ⟨rfl, K4.out, K5.out⟩

set_option maxRecDepth 100000 in
set_option maxHeartbeats 1000000 in
theorem a_holds_out (n bl bh L B len cap : Nat) (ao : Option Addr) (xs : List Int) (w : World)
    (hL : L < B) (hB : B ≤ w.heap.size) (hxs : xs.length ≤ 8192) (hbl : bl < B) (hbl' : bl ≠ L) (hbh : bh < B) (hbh' : bh ≠ L)
    (hn : (len : Int) ≤ n) (hlen : len ≤ 8192)
    (c1 : w.cell? ⟨bl, 0, none⟩ = some (.pointer (some ⟨L, 0, none⟩))) (c2 : w.cell? ⟨bh, 0, none⟩ = some (.slice ao len cap))
    (hlog : Log L B xs w) :
    Calls Yba.prog 22 #[.int .i64 n, .pointer (some ⟨bl, 0, none⟩), .pointer (some ⟨bh, 0, none⟩)] w fun e w' =>
      e = .returned (.bool false) ∧ Log L B (xs ++ [(n : Int)]) w' ∧ Kept L B w w' := by
  obtain ⟨v, hv, hown⟩ := hlog
  have c4 := cell_of_one hv
  obtain ⟨i0, hi, hz0, hz1, hz2⟩ := info_parts a_info3
  have z1 : ∀ o, (w.alloc o).cell? ⟨L, 0, none⟩ = some v := fun o => (World.cell?_alloc_past _ _ _ (by omega)).trans c4
  have z2 : ∀ o, (w.alloc o).cell? ⟨bl, 0, none⟩ = some (.pointer (some ⟨L, 0, none⟩)) := fun o => (World.cell?_alloc_past _ _ _ (by omega)).trans c1
  have HV : Hid _ := hv
  have HOWN : Hid _ := hown
  clear hv hown
  go_enter Yba.func22, Yba.ntmps22
  go_wp2
  go_region_law (refine step_append_own rfl (.tmp 8) (.tmp 10) 31 rfl B 3 i0 (.int .i64 0) 1 8 Yba.underlying31 hi hz0 hz1 hz2 rfl (by decide) v xs.length (xs.map (Value.int .i64)) (by simp [Act.eval]) (Log.own HOWN _) ⟨w.heap.size, 0, none⟩ 1 1 [.int .i64 n] (by simp [Act.eval]) rfl (cell_one_new _ _ _) (by intro u hu; simp at hu; subst hu; rfl) (by unfold maxLen; omega) (by omega) (by simp; omega) ?_; intro v' w1 h1 hg; obtain ⟨k1, k2, ⟨g, cp, hvg⟩, k4, k5, k6⟩ := log_step hL hB HV.out HOWN.out h1 hg; subst hvg; have K4 : Hid _ := k4; have K5 : Hid _ := k5; have k7 := (k6 bl 0 hbl).trans c1; clear k4 k5 k6 h1 hg)
  all_goals
    have q1 := (K5.out.cell bh 0 hbh hbh').trans c2
    have hd : ¬ n < len := by omega
    clear z1 z2 k1 k2 k7 c4
    go_wp2
    go_ret
    exact ⟨rfl, K4.out, K5.out⟩

end Go.Proofs.Ybulkawna
