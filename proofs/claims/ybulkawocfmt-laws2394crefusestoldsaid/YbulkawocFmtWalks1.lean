import Derived.Test.YbulkawocFmtFacts
import Derived.Deep.QuietTactic
import Derived.BigQuiet
namespace Go.Proofs.YbulkawocFmt
open Go.Extern.Stop Go.Stop Go.Extern Go.RowKit
set_option linter.unusedVariables false
attribute [local go_sem] call9 fguard fmt0 fmt0r op22

set_option maxHeartbeats 400000 in
theorem f_invalid (F : Interp) (w : World) (hF : F.answers w.tape) :
    Calls Ybaf.prog 8 #[] w fun e w' => ∃ s : ByteArray, e = .returned (.pointer (some ⟨w.heap.size + 1, 0, none⟩)) ∧
      w' = ((w.alloc (.cells #[.iface 22 (.int .i64 9007199254740991)] 20)).alloc (.cells #[.int .i64 1, .string s] 51)).drew := by
  have hF' := answers_open hF
  go_enter Ybaf.func8, Ybaf.ntmps8
  go_wp2
  go_ret
  exact ⟨_, rfl, rfl⟩

theorem f_valid (a : Int) (w : World) : Calls Ybaf.prog 7 #[.int .i64 a] w fun e w' => e = .returned (.bool (decide (1 ≤ a) && decide (a ≤ 9007199254740991))) ∧ w' = w := by
  by_cases h1 : 1 ≤ a
  · have hd : decide (1 ≤ a) = true := by simpa using h1
    go_enter Ybaf.func7, Ybaf.ntmps7
    go_wp2
    go_ret
    exact ⟨by simp [h1], rfl⟩
  · have hd : decide (1 ≤ a) = false := by simpa using h1
    go_enter Ybaf.func7, Ybaf.ntmps7
    go_wp2
    go_ret
    exact ⟨by simp, rfl⟩

/-- validPart lets it pass. -/
theorem f_part_ok (b : Nat) (rest : Bool) (a : Int) (w : World) (h : (rest || (decide (1 ≤ a) && decide (a ≤ 9007199254740991))) = true)
    (c6 : w.cell? ⟨b, 6, none⟩ = some (.int .i64 a)) (c7 : w.cell? ⟨b, 7, none⟩ = some (.bool rest)) :
    Calls Ybaf.prog 5 #[.pointer (some ⟨b, 0, none⟩)] w fun e w' => e = .returned .nilIface ∧ w' = w := by
  cases rest with
  | true =>
    clear h
    go_enter Ybaf.func5, Ybaf.ntmps5
    go_wp2
    go_ret
    exact ⟨rfl, rfl⟩
  | false =>
    have C := f_valid a w
    rw [show (decide (1 ≤ a) && decide (a ≤ 9007199254740991)) = true from by simpa using h] at C
    clear h
    go_enter Ybaf.func5, Ybaf.ntmps5
    go_wp2_with (go_at_call 7; refine Calls.mono C ?_; rintro e w' ⟨rfl, rfl⟩)
    go_ret
    exact ⟨rfl, rfl⟩

/-- validPart refuses it. -/
theorem f_part_bad (F : Interp) (b : Nat) (a : Int) (w : World) (hF : F.answers w.tape) (h : (decide (1 ≤ a) && decide (a ≤ 9007199254740991)) = false)
    (c6 : w.cell? ⟨b, 6, none⟩ = some (.int .i64 a)) (c7 : w.cell? ⟨b, 7, none⟩ = some (.bool false)) :
    Calls Ybaf.prog 5 #[.pointer (some ⟨b, 0, none⟩)] w fun e w' => ∃ s : ByteArray, e = .returned (.iface 47 (.pointer (some ⟨w.heap.size + 1, 0, none⟩))) ∧
      w' = ((w.alloc (.cells #[.iface 22 (.int .i64 9007199254740991)] 20)).alloc (.cells #[.int .i64 1, .string s] 51)).drew := by
  have C := f_valid a w
  rw [h] at C
  clear h
  have D := f_invalid F w hF
  go_enter Ybaf.func5, Ybaf.ntmps5
  go_wp2_with (first | (go_at_call 7; refine Calls.mono C ?_; rintro e w' ⟨rfl, rfl⟩) | (go_at_call 8; refine Calls.mono D ?_; rintro e w' ⟨s, rfl, rfl⟩))
  go_ret
  exact ⟨_, rfl, rfl⟩

end Go.Proofs.YbulkawocFmt
