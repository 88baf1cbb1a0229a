import Derived.Test.YbulkawnaABuiltLay
namespace Go.Proofs.Ybulkawna
open Go.RowKit
set_option linter.unusedVariables false

/-! ### A region that draws its order, by an invariant: one proof an operation, not an order -/
section
variable {P : Program} {ops : Array Oper} {Q : Exit → Act → World → Prop} {md : Region.Mode}

/-- How many operations have not come up. -/
def need (ops : Array Oper) (L : Array Bool) : Nat := ((List.range ops.size).filter fun i => !L.getD i true).length

theorem ready_mem {L : Array Bool} {i : Nat} (h : i ∈ Region.ready md ops L) :
    i < ops.size ∧ L.getD i true = false ∧ ∃ o, ops[i]? = some o ∧ ∀ e ∈ o.after, Region.binds md e = true → L.getD e.on false = true := by
  unfold Region.ready at h
  rw [List.mem_filter] at h
  obtain ⟨h1, h2⟩ := h
  have hi : i < ops.size := List.mem_range.1 h1
  rw [Bool.and_eq_true] at h2
  obtain ⟨h2, h3⟩ := h2
  refine ⟨hi, by simpa using h2, ops[i], by simp [hi], fun e he hb => ?_⟩
  rw [Array.getElem?_eq_getElem hi] at h3
  simp only [Option.map_some, Option.getD_some, Array.all_eq_true_iff_forall_mem] at h3
  have := h3 e he
  rw [hb] at this
  simpa using this

theorem getD_set (L : Array Bool) (i j : Nat) (d : Bool) (hi : i < L.size) : (L.setIfInBounds i true).getD j d = if j = i then true else L.getD j d := by
  simp only [Array.getD_eq_getD_getElem?]
  by_cases h : j = i
  · subst h; simp [hi]
  · rw [Array.getElem?_setIfInBounds_ne (fun e => h e.symm)]; simp [h]

theorem need_set {L : Array Bool} {i : Nat} (hs : L.size = ops.size) (hi : i < ops.size) (h : L.getD i true = false) : need ops (L.setIfInBounds i true) < need ops L := by
  unfold need
  have e : ((List.range ops.size).filter fun j => !(L.setIfInBounds i true).getD j true) = ((List.range ops.size).filter fun j => !L.getD j true).filter (fun j => j != i) := by
    rw [List.filter_filter]
    apply List.filter_congr
    intro j _
    rw [getD_set _ _ _ _ (by omega)]
    by_cases hj : j = i
    · subst hj; simp
    · simp [hj]
  rw [e, List.length_filter_lt_length_iff_exists]
  exact ⟨i, List.mem_filter.2 ⟨List.mem_range.2 hi, by rw [h]; rfl⟩, by simp⟩

theorem wpAny_inv (I : Array Bool → Act → World → Prop)
    (hstep : ∀ L a w i o, L.size = ops.size → I L a w → ops[i]? = some o → i < ops.size → (∀ e ∈ o.after, Region.binds md e = true → L.getD e.on false = true) → wpOp P ops Q i (I (L.setIfInBounds i true)) a w)
    (hdone : ∀ L a w, L.size = ops.size → I L a w → Region.ready md ops L = [] → Q .normal a w) :
    ∀ fuel L a w, L.size = ops.size → I L a w → need ops L ≤ fuel → wpAny P md ops Q fuel L a w := by
  intro fuel
  induction fuel with
  | zero =>
    intro L a w hs hI hn
    have hr : Region.ready md ops L = [] := by
      apply List.eq_nil_iff_forall_not_mem.2
      intro i hi
      obtain ⟨h1, h2, _⟩ := ready_mem hi
      have : i ∈ ((List.range ops.size).filter fun i => !L.getD i true) := List.mem_filter.2 ⟨List.mem_range.2 h1, by rw [h2]; rfl⟩
      have hz : ((List.range ops.size).filter fun i => !L.getD i true) = [] := List.eq_nil_of_length_eq_zero (by unfold need at hn; omega)
      rw [hz] at this
      cases this
    exact ⟨hr, hdone L a w hs hI hr⟩
  | succ fuel ih =>
    intro L a w hs hI hn
    refine ⟨fun hr => hdone L a w hs hI hr, fun i hi => ?_⟩
    obtain ⟨h1, h2, o, ho, hd⟩ := ready_mem hi
    refine wpOp_mono (fun a' w' hI' => ih _ a' w' (by simpa using hs) hI' ?_) (hstep L a w i o hs hI ho h1 hd)
    have := need_set (L := L) hs h1 h2
    omega

/-- Where each operation waits for earlier ones alone: nothing ready, then all have come up. -/
theorem ready_nil {L : Array Bool} (hs : L.size = ops.size) (hord : ∀ (i : Nat) (o : Oper), ops[i]? = some o → ∀ e ∈ o.after, e.on < i) (h : Region.ready md ops L = []) : ∀ i, i < ops.size → L.getD i false = true := by
  intro i
  induction i using Nat.strongRecOn with
  | ind i ih =>
    intro hi
    cases hb : L.getD i false with
    | true => rfl
    | false =>
      have hb' : L.getD i true = false := by
        rw [Array.getD_eq_getD_getElem?, Array.getElem?_eq_getElem (by omega)] at hb ⊢
        simpa using hb
      have hm : i ∈ Region.ready md ops L := by
        unfold Region.ready
        rw [List.mem_filter]
        refine ⟨List.mem_range.2 hi, ?_⟩
        rw [hb', Array.getElem?_eq_getElem hi]
        simp only [Option.map_some, Option.getD_some, Bool.not_false, Bool.true_and, Array.all_eq_true_iff_forall_mem]
        intro e he
        have hlt := hord i ops[i] (by simp [hi]) e he
        rw [ih e.on hlt (by omega)]
        simp
      rw [h] at hm
      cases hm

theorem wpOp_run {i : Nat} {o : Oper} {a : Act} {w w' : World} {K : Act → World → Prop} {v : Value} (ho : ops[i]? = some o) (hg : o.guard = none)
    (hr : (execOp a.eval o).run P w = .ok (.value v) w') (h : K (a.put o.dst v) w') : wpOp P ops Q i K a w := by
  unfold wpOp
  rw [ho]
  simp only [Region.wanted, hg, if_true]
  refine Or.inl ?_
  unfold Oper.wp
  rw [hr]
  exact h
end

end Go.Proofs.Ybulkawna
