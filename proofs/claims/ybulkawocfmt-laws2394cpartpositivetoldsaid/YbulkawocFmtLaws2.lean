import Derived.Test.YbulkawocFmtLaws
namespace Go.Proofs.YbulkawocFmt
open Go.Extern.Stop Go.Stop Go.Extern Go.RowKit
set_option linter.unusedVariables false

theorem f_part_rest (b : Nat) (l : Int) (w : World) (c7 : w.cell? ⟨b, 7, none⟩ = some (.bool true)) :
    Calls Ybaf.prog 6 #[.pointer (some ⟨b, 0, none⟩), .int .i64 l] w fun e w' => e = .returned (.tuple #[.int .i64 l, .bool (decide (0 < l))]) ∧ w' = w := by
  go_enter Ybaf.func6, Ybaf.ntmps6
  go_wp2
  go_ret2
  exact ⟨rfl, rfl⟩
theorem f_part_amt (b : Nat) (a l : Int) (w : World) (c6 : w.cell? ⟨b, 6, none⟩ = some (.int .i64 a)) (c7 : w.cell? ⟨b, 7, none⟩ = some (.bool false)) :
    Calls Ybaf.prog 6 #[.pointer (some ⟨b, 0, none⟩), .int .i64 l] w fun e w' => e = .returned (.tuple #[.int .i64 a, .bool (decide (a ≤ l))]) ∧ ∃ n, w' = w.drewN n := by
  go_enter Ybaf.func6, Ybaf.ntmps6
  go_wp2
  go_quiet (fail)
  go_wp2
  go_ret2
  exact ⟨rfl, _, rfl⟩

theorem fGrown_drewN {W w' : World} (h : Grown W w') (k : Nat) : Grown W (w'.drewN k) := h

set_option maxHeartbeats 1000000 in
set_option maxRecDepth 100000 in
theorem f_positive_rest (a l : Int) (w : World) :
    Calls Ybaf.prog 4 #[.bool true, .int .i64 a, .int .i64 l] w fun e w' => e = .returned (.bool true) ∧ Grown w w' := by
  have k6 := ev_heap w true a 6 (.int .i64 a) rfl
  have k7 := ev_heap w true a 7 (.bool true) rfl
  have C := hidf (f_part_ok w.heap.size true a (w.alloc (.cells (evCells true a) 43)) rfl k6 k7)
  have D := hidf (f_part_rest w.heap.size l (w.alloc (.cells (evCells true a) 43)) k7)
  by_cases h : 0 < l
  · have d1 : decide (0 < l) = true := by simpa using h
    have d2 : decide (1 ≤ l) = true := by simp; omega
    clear h
    go_enter Ybaf.func4, Ybaf.ntmps4
    go_wp2_with (refine wpList_store_new rfl 43 (.tmp 7) (.tmp 12) rfl _ (evCells true a) rfl rfl (ev_size true a) rfl (ev_one true a) ?_)
    refine Calls.mono C.out ?_
    rintro e w1 ⟨rfl, rfl⟩
    go_wp2_with fail
    refine Calls.mono D.out ?_
    rintro e w1 ⟨rfl, rfl⟩
    go_wp2
    go_ret
    exact ⟨rfl, (Grown.refl _).alloc _ _⟩
  · have d1 : decide (0 < l) = false := by simpa using h
    clear h
    go_enter Ybaf.func4, Ybaf.ntmps4
    go_wp2_with (refine wpList_store_new rfl 43 (.tmp 7) (.tmp 12) rfl _ (evCells true a) rfl rfl (ev_size true a) rfl (ev_one true a) ?_)
    refine Calls.mono C.out ?_
    rintro e w1 ⟨rfl, rfl⟩
    go_wp2_with fail
    refine Calls.mono D.out ?_
    rintro e w1 ⟨rfl, rfl⟩
    go_wp2
    go_ret
    exact ⟨rfl, (Grown.refl _).alloc _ _⟩

set_option maxHeartbeats 1000000 in
set_option maxRecDepth 100000 in
theorem f_positive_ok (a l : Int) (w : World) (h1 : 1 ≤ a) (h2 : a ≤ 9007199254740991) :
    Calls Ybaf.prog 4 #[.bool false, .int .i64 a, .int .i64 l] w fun e w' => e = .returned (.bool true) ∧ Grown w w' := by
  have k6 := ev_heap w false a 6 (.int .i64 a) rfl
  have k7 := ev_heap w false a 7 (.bool false) rfl
  have C := hidf (f_part_ok w.heap.size false a (w.alloc (.cells (evCells false a) 43)) (by simp [h1, h2]) k6 k7)
  have D := hidf (f_part_amt w.heap.size a l (w.alloc (.cells (evCells false a) 43)) k6 k7)
  have d2 : decide (1 ≤ a) = true := by simpa using h1
  clear h1 h2
  by_cases h : a ≤ l
  · have d1 : decide (a ≤ l) = true := by simpa using h
    clear h
    go_enter Ybaf.func4, Ybaf.ntmps4
    go_wp2_with (refine wpList_store_new rfl 43 (.tmp 7) (.tmp 12) rfl _ (evCells false a) rfl rfl (ev_size false a) rfl (ev_one false a) ?_)
    refine Calls.mono C.out ?_
    rintro e w1 ⟨rfl, rfl⟩
    go_wp2_with fail
    refine Calls.mono D.out ?_
    rintro e w1 ⟨rfl, n, rfl⟩
    go_wp2
    go_ret
    exact ⟨rfl, fGrown_drewN ((Grown.refl _).alloc _ _) n⟩
  · have d1 : decide (a ≤ l) = false := by simpa using h
    clear h
    go_enter Ybaf.func4, Ybaf.ntmps4
    go_wp2_with (refine wpList_store_new rfl 43 (.tmp 7) (.tmp 12) rfl _ (evCells false a) rfl rfl (ev_size false a) rfl (ev_one false a) ?_)
    refine Calls.mono C.out ?_
    rintro e w1 ⟨rfl, rfl⟩
    go_wp2_with fail
    refine Calls.mono D.out ?_
    rintro e w1 ⟨rfl, n, rfl⟩
    go_wp2
    go_ret
    exact ⟨rfl, fGrown_drewN ((Grown.refl _).alloc _ _) n⟩

set_option maxHeartbeats 1000000 in
set_option maxRecDepth 100000 in
theorem f_positive_bad (F : Interp) (a l : Int) (w : World) (hF : F.answers w.tape) (h : ¬ (1 ≤ a ∧ a ≤ 9007199254740991)) :
    Calls Ybaf.prog 4 #[.bool false, .int .i64 a, .int .i64 l] w fun e w' => e = .returned (.bool true) ∧ Grown w w' := by
  have k6 := ev_heap w false a 6 (.int .i64 a) rfl
  have k7 := ev_heap w false a 7 (.bool false) rfl
  have hb : (decide (1 ≤ a) && decide (a ≤ 9007199254740991)) = false := by
    rw [Bool.and_eq_false_iff]; simp; omega
  have C := hidf (f_part_bad F w.heap.size a (w.alloc (.cells (evCells false a) 43)) hF hb k6 k7)
  clear h hb
  go_enter Ybaf.func4, Ybaf.ntmps4
  go_wp2_with (refine wpList_store_new rfl 43 (.tmp 7) (.tmp 12) rfl _ (evCells false a) rfl rfl (ev_size false a) rfl (ev_one false a) ?_)
  refine Calls.mono C.out ?_
  rintro e w1 ⟨s, rfl, rfl⟩
  go_wp2
  go_ret
  exact ⟨rfl, ((((Grown.refl _).alloc _ _).alloc _ _).alloc _ _).drew⟩

theorem f_positive (F : Interp) (rest : Bool) (a l : Int) (w : World) (hF : F.answers w.tape) :
    Calls Ybaf.prog 4 #[.bool rest, .int .i64 a, .int .i64 l] w fun e w' => e = .returned (.bool true) ∧ Grown w w' := by
  cases rest with
  | true => exact f_positive_rest a l w
  | false =>
    by_cases h : 1 ≤ a ∧ a ≤ 9007199254740991
    · exact f_positive_ok a l w h.1 h.2
    · exact f_positive_bad F a l w hF h

end Go.Proofs.YbulkawocFmt
