import Derived.Test.YbulkawocFmtWalks1
import Derived.Deep.WholeRow
namespace Go.Proofs.YbulkawocFmt
open Go.Extern.Stop Go.Stop Go.Extern Go.RowKit
set_option linter.unusedVariables false

theorem hidf {p : Prop} (h : p) : Hid p := h

/-- A store of a whole value into the block that was made last. -/
theorem wpList_store_new {P : Program} {ops : Array Oper} {rest : List Oper} {o : Oper} {a : Act} {w : World} {Q : Exit → Act → World → Prop} (hgd : o.guard = none) (t : TypeId) (x y : Operand) (ho : o.op = .store t x y)
    (c c' : Array Value) (hx : a.eval x = .pointer (some ⟨w.heap.size, 0, none⟩)) (hy : a.eval y = .agg c') (hi : (P.info? t).map (·.size) = some c'.size) (hs : c.size = c'.size) (h1 : c'.all (·.oneCell') = true)
    (h : wpList P ops Q rest (a.put o.dst undef) (w.alloc (.cells c' t))) : wpList P ops Q (o :: rest) a (w.alloc (.cells c t)) := by
  refine wpList_plain hgd fun K hK => ?_
  have hr := run_storeAt_new (P := P) w t c c' hi hs h1
  unfold Oper.wp
  simp [execOp, ho, hx, hy, hr, Result.andThen]
  exact hK _ _ h

/-- The cells of event{Rest: rest, Amount: a}. -/
def evCells (rest : Bool) (a : Int) : Array Value := #[.string ⟨#[]⟩, .string ⟨#[]⟩, .string ⟨#[]⟩, .string ⟨#[]⟩, .string ⟨#[]⟩, .string ⟨#[]⟩, .int .i64 a, .bool rest, .int .u64 0, .int .i64 0, .pointer none, .int .u64 0, .int .i64 0, .pointer none, .bool false, .pointer none, .map none, .string ⟨#[]⟩, .pointer none, .pointer none, .bool false, .pointer none, .map none, .bool false, .bool false, .pointer none, .nilIface]
theorem ev27 : (Ybaf.prog.info? 43).map (·.size) = some 27 := by kernel_rfl
theorem ev_size (rest : Bool) (a : Int) : (Ybaf.prog.info? 43).map (·.size) = some (evCells rest a).size := ev27
theorem ev_one (rest : Bool) (a : Int) : (evCells rest a).all (·.oneCell') = true := by simp [evCells, Value.oneCell']
theorem ev_heap (w : World) (rest : Bool) (a : Int) (j : Nat) (v : Value) (h : (evCells rest a)[j]? = some v) : (w.alloc (.cells (evCells rest a) 43)).cell? ⟨w.heap.size, j, none⟩ = some v := by
  have := heap_alloc_new w (.cells (evCells rest a) 43)
  show (match (w.alloc (.cells (evCells rest a) 43)).heap[w.heap.size]? with | some (.cells c _ _) => c[j]? | _ => none) = some v
  rw [this]; exact h

set_option maxHeartbeats 1000000 in
set_option maxRecDepth 100000 in
theorem f_refuses_rest (a : Int) (w : World) :
    Calls Ybaf.prog 3 #[.bool true, .int .i64 a] w fun e w' => e = .returned (.bool true) ∧ Grown w w' := by
  have k6 := ev_heap w true a 6 (.int .i64 a) rfl
  have k7 := ev_heap w true a 7 (.bool true) rfl
  have C := hidf (f_part_ok w.heap.size true a (w.alloc (.cells (evCells true a) 43)) rfl k6 k7)
  go_enter Ybaf.func3, Ybaf.ntmps3
  go_wp2_with (refine wpList_store_new rfl 43 (.tmp 5) (.tmp 12) rfl _ (evCells true a) rfl rfl (ev_size true a) rfl (ev_one true a) ?_)
  refine Calls.mono C.out ?_
  rintro e w1 ⟨rfl, rfl⟩
  go_wp2
  go_ret
  exact ⟨rfl, (Grown.refl _).alloc _ _⟩

set_option maxHeartbeats 1000000 in
set_option maxRecDepth 100000 in
theorem f_refuses_ok (a : Int) (w : World) (h1 : 1 ≤ a) (h2 : a ≤ 9007199254740991) :
    Calls Ybaf.prog 3 #[.bool false, .int .i64 a] w fun e w' => e = .returned (.bool true) ∧ Grown w w' := by
  have k6 := ev_heap w false a 6 (.int .i64 a) rfl
  have k7 := ev_heap w false a 7 (.bool false) rfl
  have C := hidf (f_part_ok w.heap.size false a (w.alloc (.cells (evCells false a) 43)) (by simp [h1, h2]) k6 k7)
  have d1 : decide (1 ≤ a) = true := by simpa using h1
  have d2 : decide (a ≤ 9007199254740991) = true := by simpa using h2
  clear h1 h2
  go_enter Ybaf.func3, Ybaf.ntmps3
  go_wp2_with (refine wpList_store_new rfl 43 (.tmp 5) (.tmp 12) rfl _ (evCells false a) rfl rfl (ev_size false a) rfl (ev_one false a) ?_)
  refine Calls.mono C.out ?_
  rintro e w1 ⟨rfl, rfl⟩
  go_wp2
  go_ret
  exact ⟨rfl, (Grown.refl _).alloc _ _⟩

theorem f_assert (ad : Addr) (w : World) : (Instr.typeAssert (.iface 47 (.pointer (some ad))) 45 47 true).run Ybaf.prog w = .ok (.tuple #[.pointer (some ad), .bool true]) w := by kernel_rfl

set_option maxHeartbeats 1000000 in
set_option maxRecDepth 100000 in
theorem f_refuses_bad (F : Interp) (a : Int) (w : World) (hF : F.answers w.tape) (h : ¬ (1 ≤ a ∧ a ≤ 9007199254740991)) :
    Calls Ybaf.prog 3 #[.bool false, .int .i64 a] w fun e w' => e = .returned (.bool true) ∧ Grown w w' := by
  have k6 := ev_heap w false a 6 (.int .i64 a) rfl
  have k7 := ev_heap w false a 7 (.bool false) rfl
  have hb : (decide (1 ≤ a) && decide (a ≤ 9007199254740991)) = false := by
    rw [Bool.and_eq_false_iff]; simp; omega
  have C := hidf (f_part_bad F w.heap.size a (w.alloc (.cells (evCells false a) 43)) hF hb k6 k7)
  have hta := f_assert
  have e6 : (evCells false a)[6]? = some (.int .i64 a) := rfl
  have e7 : (evCells false a)[7]? = some (.bool false) := rfl
  have k8 : ∀ s, (((w.alloc (.cells (evCells false a) 43)).alloc (.cells #[.iface 22 (.int .i64 9007199254740991)] 20)).alloc (.cells #[.int .i64 1, .string s] 51)).cell? ⟨w.heap.size, 6, none⟩ = some (.int .i64 a) := fun s => by
    rw [World.cell?_alloc_past _ _ _ (by simp; omega), World.cell?_alloc_past _ _ _ (by simp)]; exact k6
  have k9 : ∀ s, (((w.alloc (.cells (evCells false a) 43)).alloc (.cells #[.iface 22 (.int .i64 9007199254740991)] 20)).alloc (.cells #[.int .i64 1, .string s] 51)).cell? ⟨w.heap.size, 7, none⟩ = some (.bool false) := fun s => by
    rw [World.cell?_alloc_past _ _ _ (by simp; omega), World.cell?_alloc_past _ _ _ (by simp)]; exact k7
  by_cases h1 : 1 ≤ a
  · have d1 : decide (1 ≤ a) = true := by simpa using h1
    have d2 : decide (a ≤ 9007199254740991) = false := by simp; omega
    clear h h1 hb
    go_enter Ybaf.func3, Ybaf.ntmps3
    go_wp2_with (refine wpList_store_new rfl 43 (.tmp 5) (.tmp 12) rfl _ (evCells false a) rfl rfl (ev_size false a) rfl (ev_one false a) ?_)
    refine Calls.mono C.out ?_
    rintro e w1 ⟨s, rfl, rfl⟩
    go_wp2
    go_ret
    exact ⟨rfl, ((((Grown.refl _).alloc _ _).alloc _ _).alloc _ _).drew⟩
  · have d1 : decide (1 ≤ a) = false := by simpa using h1
    clear h h1 hb
    go_enter Ybaf.func3, Ybaf.ntmps3
    go_wp2_with (refine wpList_store_new rfl 43 (.tmp 5) (.tmp 12) rfl _ (evCells false a) rfl rfl (ev_size false a) rfl (ev_one false a) ?_)
    refine Calls.mono C.out ?_
    rintro e w1 ⟨s, rfl, rfl⟩
    go_wp2
    go_ret
    exact ⟨rfl, ((((Grown.refl _).alloc _ _).alloc _ _).alloc _ _).drew⟩

theorem f_refuses (F : Interp) (rest : Bool) (a : Int) (w : World) (hF : F.answers w.tape) :
    Calls Ybaf.prog 3 #[.bool rest, .int .i64 a] w fun e w' => e = .returned (.bool true) ∧ Grown w w' := by
  cases rest with
  | true => exact f_refuses_rest a w
  | false =>
    by_cases h : 1 ≤ a ∧ a ≤ 9007199254740991
    · exact f_refuses_ok a w h.1 h.2
    · exact f_refuses_bad F a w hF h

end Go.Proofs.YbulkawocFmt
