import Derived.Test.YbulkawnaRows
import Derived.WalkKit
import Derived.WalkSpells
import Derived.WalkLawsBesides
import Derived.RowKit3
import Derived.Deep.QuietTactic
import Derived.BigQuiet
namespace Go.Proofs.Ybulkawna
open Go.RowKit
set_option linter.unusedVariables false

theorem c_info57 : (Yba.prog.info? 57).map (fun i => (i.size, i.bytes)) = some (6, 104) := by kernel_rfl

theorem c_zero57 : ((Yba.prog.info? 57).bind (fun i => i.zero)).isSome = true := by kernel_rfl

theorem c_make (n : Nat) (hn : n ≤ 255) : ∃ cs : Array Value, ∀ w : World, (Instr.makeSlice 58 (.int .i64 n) (.int .i64 n)).run Yba.prog w = .ok (.slice (some ⟨w.heap.size, 0, none⟩) n n) (w.alloc (.cells cs 57)) := by
  have h := c_info57
  have hz := c_zero57
  cases hi : Yba.prog.info? 57 with
  | none => rw [hi] at h; simp at h
  | some i =>
    rw [hi] at h hz
    simp at h hz
    obtain ⟨z, hz⟩ := Option.isSome_iff_exists.mp hz
    refine ⟨madeCells z.cells (n * i.size), fun w => ?_⟩
    have := run_make (P := Yba.prog) w 58 57 i z Yba.underlying58 hi hz .i64 .i64 n n (by omega) (by omega) (by rw [h.2]; omega) (by omega)
    simpa using this

theorem c_z112' : (match Yba.prog.info? 112 with | some i => (match i.zero with | some (.agg zs) => zs.size == 68 | _ => false) | Option.none => false) = true := by kernel_rfl

theorem c_z112 : ∃ zs : Array Value, zs.size = 68 ∧ ¬ zs = #[] ∧ ∀ w : World, (zeroValue 112).run Yba.prog w = .ok (.agg zs) w := by
  have h := c_z112'
  split at h
  · rename_i i hi
    split at h
    · rename_i zs hz
      have hs : zs.size = 68 := by simpa using h
      refine ⟨zs, hs, ?_, fun w => ?_⟩
      · intro e; rw [e] at hs; simp at hs
      · simp [zeroValue, typeInfo, hi, hz]
    · cases h
  · cases h

set_option maxRecDepth 100000 in
set_option maxHeartbeats 400000 in
theorem c_build (a0 a1 : Int) (h0 : 0 ≤ a0) (h0' : a0 ≤ 255) (h1 : 0 ≤ a1) (h1' : a1 ≤ 65535) (w : World) :
    Calls Yba.prog 16 #[.int .u8 a0, .int .u16 a1] w fun e w' => ∃ b bp bu : Nat,
      e = .returned (.tuple #[.pointer (some ⟨b, 0, none⟩), .int .i64 a0, .int .i64 (a1 % 1000 + 1)]) ∧
      w'.cell? ⟨b, 0, none⟩ = some (.pointer (some ⟨bp, 0, none⟩)) ∧
      w'.cell? ⟨bp, 0, none⟩ = some (.int .i64 (a1 % 1000 + 1)) ∧
      w'.cell? ⟨bp, 1, none⟩ = some (.slice (some ⟨bu, 0, none⟩) a0.toNat a0.toNat) ∧ Grown w w' := by
  obtain ⟨n, rfl⟩ := Int.eq_ofNat_of_zero_le h0
  obtain ⟨cs, hmk⟩ := c_make n (by omega)
  obtain ⟨zs, hzs, hzn, hz⟩ := c_z112
  go_enter Yba.func16, Yba.ntmps16
  go_wp2
  go_ret3
  refine ⟨w.heap.size + 1 + 1, w.heap.size + 1, w.heap.size, rfl, ?_, ?_, ?_, (((Grown.refl _).alloc _ _).alloc _ _).alloc _ _⟩
  · have h68 : 0 < zs.size := by omega
    simp [go_sem, h68]
  · simp [go_sem]
  · simp [go_sem]

set_option maxHeartbeats 400000 in
theorem c_thread0 (b bp bu : Nat) (n : Nat) (u t s : Int) (w : World) (hu : 0 ≤ u) (hu' : u ≤ 300) (ht : 1 ≤ t) (ht' : t ≤ 1000) (hs : 0 ≤ s) (hs' : s ≤ 1000) (hut : 0 ≤ u * t) (hut' : u * t ≤ 300000)
    (c0 : w.cell? ⟨b, 0, none⟩ = some (.pointer (some ⟨bp, 0, none⟩))) (c1 : w.cell? ⟨bp, 0, none⟩ = some (.int .i64 t)) :
    Calls Yba.prog 17 #[.pointer (some ⟨b, 0, none⟩), .int .i64 0, .int .i64 u, .int .i64 s] w fun e w' => e = .returned (.int .i64 (u * t + s)) ∧ w' = w := by
  go_enter Yba.func17, Yba.ntmps17
  go_wp2
  go_ret
  exact ⟨rfl, rfl⟩
set_option maxHeartbeats 400000 in
theorem c_thread1 (b bp bu : Nat) (n : Nat) (u t s : Int) (w : World) (hn : n ≤ 255) (ht : 1 ≤ t) (ht' : t ≤ 1000) (hs : 0 ≤ s) (hs' : s ≤ 1000) (hut : 0 ≤ (n : Int) * t) (hut' : (n : Int) * t ≤ 300000)
    (c0 : w.cell? ⟨b, 0, none⟩ = some (.pointer (some ⟨bp, 0, none⟩))) (c1 : w.cell? ⟨bp, 0, none⟩ = some (.int .i64 t)) (c2 : w.cell? ⟨bp, 1, none⟩ = some (.slice (some ⟨bu, 0, none⟩) n n)) :
    Calls Yba.prog 17 #[.pointer (some ⟨b, 0, none⟩), .int .i64 1, .int .i64 u, .int .i64 s] w fun e w' => e = .returned (.int .i64 ((n : Int) * t + s)) ∧ w' = w := by
  go_enter Yba.func17, Yba.ntmps17
  go_wp2
  go_ret
  exact ⟨rfl, rfl⟩
set_option maxHeartbeats 400000 in
theorem c_thread2 (b bp bu : Nat) (n : Nat) (u t s : Int) (w : World) (hn : n ≤ 255) (ht : 1 ≤ t) (ht' : t ≤ 1000) (hs : 0 ≤ s) (hs' : s ≤ 1000) (hut : 0 ≤ ((n : Int) + 1) * t) (hut' : ((n : Int) + 1) * t ≤ 300000)
    (c0 : w.cell? ⟨b, 0, none⟩ = some (.pointer (some ⟨bp, 0, none⟩))) (c1 : w.cell? ⟨bp, 0, none⟩ = some (.int .i64 t)) (c2 : w.cell? ⟨bp, 1, none⟩ = some (.slice (some ⟨bu, 0, none⟩) n n)) :
    Calls Yba.prog 17 #[.pointer (some ⟨b, 0, none⟩), .int .i64 2, .int .i64 u, .int .i64 s] w fun e w' => e = .returned (.int .i64 (((n : Int) + 1) * t + s)) ∧ w' = w := by
  go_enter Yba.func17, Yba.ntmps17
  go_wp2
  go_ret
  exact ⟨rfl, rfl⟩

set_option maxHeartbeats 1000000 in
theorem c_locate (b bp bu : Nat) (n : Nat) (th t row s : Int) (w : World) (hn : n ≤ 255) (ht : 1 ≤ t) (ht' : t ≤ 1000) (hth : 0 ≤ th) (hth' : th ≤ 1000000)
    (hq : th / t = row) (hr : th % t = s) (hrow : 0 ≤ row) (hrow' : row ≤ 1000)
    (c0 : w.cell? ⟨b, 0, none⟩ = some (.pointer (some ⟨bp, 0, none⟩))) (c1 : w.cell? ⟨bp, 0, none⟩ = some (.int .i64 t)) (c2 : w.cell? ⟨bp, 1, none⟩ = some (.slice (some ⟨bu, 0, none⟩) n n)) :
    Calls Yba.prog 18 #[.pointer (some ⟨b, 0, none⟩), .int .i64 th] w fun e w' =>
      e = .returned (.tuple #[.int .i64 (if row < n then 0 else if row = n then 1 else 2), .int .i64 (if row < n then row else -1), .int .i64 s]) ∧ ∃ k, w' = w.drewN k := by
  by_cases h1 : row < n
  · go_enter Yba.func18, Yba.ntmps18
    go_wp2
    go_quiet (fail)
    go_wp2
    go_ret3
    exact ⟨by simp, _, rfl⟩
  · by_cases h2 : row = n
    · have h2' : (row == (n : Int)) = true := by simp [h2]
      go_enter Yba.func18, Yba.ntmps18
      go_wp2
      go_quiet (fail)
      go_wp2
      go_ret3
      exact ⟨by simp, _, rfl⟩
    · have h2' : (row == (n : Int)) = false := by simp [h2]
      go_enter Yba.func18, Yba.ntmps18
      go_wp2
      go_quiet (fail)
      go_wp2
      go_ret3
      exact ⟨by simp, _, rfl⟩

end Go.Proofs.Ybulkawna
