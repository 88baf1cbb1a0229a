import Derived.Test.YbulkawnaAHolds
namespace Go.Proofs.Ybulkawna
open Go.RowKit
set_option linter.unusedVariables false

/-- A listing that is there: fixed hands it back. -/
theorem a_fixed_some (bg b off len cap : Nat) (w : World) (c7 : w.cell? ⟨bg, 7, none⟩ = some (.slice (some ⟨b, off, none⟩) len cap)) :
    Calls Yba.prog 19 #[.pointer (some ⟨bg, 0, none⟩)] w fun e w' => e = .returned (.slice (some ⟨b, off, none⟩) len cap) ∧ w' = w := by
  have hne := fun w => run_neq_slice_nil_any (P := Yba.prog) w 28 37 (some ⟨b, off, none⟩) len cap 0 0 Yba.underlying28
  go_enter Yba.func19, Yba.ntmps19
  go_wp2
  go_ret
  exact ⟨rfl, rfl⟩

/-- inSlot over a listing that is there. -/
theorem a_inSlot (bg b off len cap n : Nat) (z : Int) (w : World) (hn : (n : Int) < len) (hlen : len ≤ 8192) (c7 : w.cell? ⟨bg, 7, none⟩ = some (.slice (some ⟨b, off, none⟩) len cap))
    (cz : w.cell? ⟨b, off + n, none⟩ = some (.int .i8 z)) :
    Calls Yba.prog 21 #[.pointer (some ⟨bg, 0, none⟩), .int .i64 n] w fun e w' => e = .returned (.bool (decide (z < 0))) ∧ w' = w := by
  have hne := fun w => Lib.run_eql_slice_nil (P := Yba.prog) w 28 37 (some ⟨b, off, none⟩) len cap 0 0 Yba.underlying28
  go_enter Yba.func21, Yba.ntmps21
  go_wp2_with (go_at_call 19; refine (a_fixed_some bg b off len cap _ c7).mono ?_; rintro e w' ⟨rfl, rfl⟩)
  all_goals
    go_ret
    exact ⟨by simp [*], rfl⟩

/-- reading, over a listing that is there: a closure. -/
theorem a_reading (bg b off len cap : Nat) (f : Value) (w : World) (hbg : bg < w.heap.size) (c7 : w.cell? ⟨bg, 7, none⟩ = some (.slice (some ⟨b, off, none⟩) len cap)) (hf : ∃ k a c, f = .func k a c) :
    Calls Yba.prog 9 #[.pointer (some ⟨bg, 0, none⟩), f] w fun e w' =>
      e = .returned (.func (.func 20) #[] #[.pointer (some ⟨w.heap.size, 0, none⟩), .pointer (some ⟨w.heap.size + 1, 0, none⟩)]) ∧ w' = (w.alloc (.cells #[.pointer (some ⟨bg, 0, none⟩)] 23)).alloc (.cells #[f] 32) := by
  have hne := fun w => Lib.run_eql_slice_nil (P := Yba.prog) w 28 37 (some ⟨b, off, none⟩) len cap 0 0 Yba.underlying28
  obtain ⟨k, a, c, rfl⟩ := hf
  have c7' : ((w.alloc (.cells #[.pointer (some ⟨bg, 0, none⟩)] 23)).alloc (.cells #[.func k a c] 32)).cell? ⟨bg, 7, none⟩ = some (.slice (some ⟨b, off, none⟩) len cap) := by
    rw [World.cell?_alloc_past _ _ _ (by simp; omega), World.cell?_alloc_past _ _ _ (by omega)]; exact c7
  go_enter Yba.func9, Yba.ntmps9
  go_wp2_with (go_at_call 19; refine (a_fixed_some bg b off len cap _ c7').mono ?_; rintro e w' ⟨rfl, rfl⟩)
  go_ret
  exact ⟨rfl, rfl⟩

/-- zzs2392aholds: a closure over its two parameters. -/
theorem a_mkholds (L len cap : Nat) (ao : Option Addr) (w : World) :
    Calls Yba.prog 10 #[.slice ao len cap, .pointer (some ⟨L, 0, none⟩)] w fun e w' =>
      e = .returned (.func (.func 22) #[] #[.pointer (some ⟨w.heap.size + 1, 0, none⟩), .pointer (some ⟨w.heap.size, 0, none⟩)]) ∧ w' = (w.alloc (.cells #[.slice ao len cap] 22)).alloc (.cells #[.pointer (some ⟨L, 0, none⟩)] 35) := by
  go_enter Yba.func10, Yba.ntmps10
  go_wp2
  go_ret
  exact ⟨rfl, rfl⟩

/-- zzs2392ahv. -/
theorem a_hv_in (n b off len cap : Nat) (x : Bool) (w : World) (hn : (n : Int) < len) (hlen : len ≤ 8192) (c : w.cell? ⟨b, off + n, none⟩ = some (.bool x)) :
    Calls Yba.prog 11 #[.slice (some ⟨b, off, none⟩) len cap, .int .i64 n] w fun e w' => e = .returned (.bool x) ∧ w' = w := by
  go_enter Yba.func11, Yba.ntmps11
  go_wp2
  go_ret
  exact ⟨rfl, rfl⟩
set_option maxRecDepth 100000 in
theorem a_hv_out (n len cap : Nat) (ao : Option Addr) (w : World) (hn : (len : Int) ≤ n) (hlen : len ≤ 8192) :
    Calls Yba.prog 11 #[.slice ao len cap, .int .i64 n] w fun e w' => e = .returned (.bool false) ∧ w' = w := by
  have hd : ¬ n < len := by omega
  go_enter Yba.func11, Yba.ntmps11
  go_wp2
  go_ret
  exact ⟨rfl, rfl⟩

end Go.Proofs.Ybulkawna
