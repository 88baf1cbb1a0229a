import Derived.Test.YbulkawnaBInsert
import Derived.Test.YbulkawnaBTrade
namespace Go.Proofs.Ybulkawna
open Go.RowKit B
set_option linter.unusedVariables false

theorem Good.trade {n a b : Nat} {p l : List Nat} {s : OL} (h : Good n (p ++ a :: b :: l) s) : Good n (p ++ b :: a :: l) (tradeS s a b) := by
  have nd := nodup_split h.ring.nd
  have hab : a ≠ b := fun e => nd.2.2.2.2.1 (by rw [e]; simp)
  have la : (tradeS s a b).lab a = s.lab b := by show up _ _ _ _ = _; rw [up_other _ _ _ _ hab, up_same]
  have lb : (tradeS s a b).lab b = s.lab a := up_same _ _ _
  have lo : ∀ x, x ≠ a → x ≠ b → (tradeS s a b).lab x = s.lab x := by
    intro x h1 h2; show up _ _ _ _ = _; rw [up_other _ _ _ _ h2, up_other _ _ _ _ h1]
  have han : a < n := h.ring.lt a (by simp)
  have hbn : b < n := h.ring.lt b (by simp)
  have nd2 := h.ring.nd
  rw [show n :: (p ++ a :: b :: l) = n :: ((p ++ [a]) ++ b :: l) from by simp] at nd2
  have ndb := nodup_split nd2
  have hbp : b ∉ p := fun e => ndb.2.2.2.1 (by simp [e])
  have hbl : b ∉ l := ndb.2.2.2.2.1
  have hap : a ∉ p := nd.2.2.2.1
  have hal : a ∉ l := fun e => nd.2.2.2.2.1 (by simp [e])
  have hmap : (n :: (p ++ b :: a :: l)).map (tradeS s a b).lab = (n :: (p ++ a :: b :: l)).map s.lab := by
    simp only [List.map_cons, List.map_append, la, lb, lo n (by omega) (by omega)]
    congr 2
    · apply List.map_congr_left; intro x hx; exact lo x (fun e => hap (e ▸ hx)) (fun e => hbp (e ▸ hx))
    · congr 2; apply List.map_congr_left; intro x hx; exact lo x (fun e => hal (e ▸ hx)) (fun e => hbl (e ▸ hx))
  refine ⟨h.ring.trade, ?_, by rw [lo n (by omega) (by omega)]; exact h.l0, ?_⟩
  · have hi := h.inc
    unfold Inc at hi ⊢
    rw [← List.pairwise_map (R := (· < ·))] at hi ⊢
    rw [hmap]; exact hi
  · intro v hv
    by_cases e1 : v = a
    · rw [e1, la]; exact h.lb b (by simp)
    · by_cases e2 : v = b
      · rw [e2, lb]; exact h.lb a (by simp)
      · rw [lo v e1 e2]; exact h.lb v (by simp at hv ⊢; rcases hv with r | r | r | r; exact .inl r; exact absurd r e2; exact absurd r e1; exact .inr (.inr (.inr r)))

theorem less_append (a b run : List Nat) : less (a ++ b) run = less a run ++ less b run := by unfold less; rw [List.filter_append]
theorem less_cons (t : Nat) (b run : List Nat) (h : t ∉ run) : less (t :: b) run = t :: less b run := by
  unfold less; rw [List.filter_cons, if_pos (by simpa using h)]
theorem less_sub (xs run : List Nat) : (less xs run).Sublist xs := List.filter_sublist
theorem less_self {xs run : List Nat} (h : ∀ v ∈ run, v ∉ xs) : less xs run = xs := by
  unfold less; rw [List.filter_eq_self]; intro x hx
  simp; exact fun e => h x e hx
theorem not_mem_less {xs run : List Nat} {v : Nat} (h : v ∈ run) : v ∉ less xs run := by
  unfold less; rw [List.mem_filter]; simp [h]

theorem Good.less {n : Nat} {xs run : List Nat} {s s' : OL} (h : Good n xs s) (hr : Ring n (less xs run) s'.nxt s'.prv) (hl : s'.lab = s.lab) : Good n (Go.Proofs.Ybulkawna.less xs run) s' := by
  refine ⟨hr, ?_, by rw [hl]; exact h.l0, ?_⟩
  · rw [hl]
    exact h.inc.sublist ((less_sub xs run).cons_cons n)
  · intro v hv; rw [hl]; exact h.lb v ((less_sub xs run).subset hv)

/-- All below n lie in it, and nothing else: it is n long. -/
theorem len_of : ∀ (n : Nat) (l : List Nat), l.Nodup → (∀ v, v ∈ l ↔ v < n) → l.length = n
  | 0, l, _, h => by
    cases l with
    | nil => rfl
    | cons x l => exact absurd ((h x).1 (by simp)) (Nat.not_lt_zero _)
  | n + 1, l, nd, h => by
    obtain ⟨A, B, rfl⟩ := List.append_of_mem ((h n).2 (by omega))
    have nd' := nd
    rw [List.nodup_append, List.nodup_cons] at nd'
    obtain ⟨n1, ⟨n2, n3⟩, n4⟩ := nd'
    have hA : n ∉ A := fun e => n4 n e n (by simp) rfl
    have : (A ++ B).length = n := by
      refine len_of n (A ++ B) ?_ ?_
      · rw [List.nodup_append]; exact ⟨n1, n3, fun x hx y hy => n4 x hx y (by simp [hy])⟩
      · intro v
        have hv := h v
        simp at hv ⊢
        constructor
        · intro e
          have h1 : v < n + 1 := hv.1 (by rcases e with r | r; exact .inl r; exact .inr (.inr r))
          have h2 : v ≠ n := by intro e'; subst e'; rcases e with r | r; exact hA r; exact n2 r
          omega
        · intro e
          rcases hv.2 (by omega) with r | r | r
          · exact .inl r
          · omega
          · exact .inr r
    simp at this ⊢
    omega

/-- Good, and all below n lie in it. -/
structure Fine (n : Nat) (xs : List Nat) (s : OL) : Prop where
  good : Good n xs s
  all : ∀ v, v < n → v ∈ xs

theorem Fine.len {n : Nat} {xs : List Nat} {s : OL} (h : Fine n xs s) : xs.length = n :=
  len_of n xs (List.nodup_cons.1 h.good.ring.nd).2 (fun v => ⟨h.good.ring.lt v, h.all v⟩)

/-- What the run's moving makes: before t. -/
def before (p0 q0 run : List Nat) (t : Nat) : List Nat := less p0 run ++ run ++ t :: less q0 run
/-- And behind it. -/
def behind (p0 q0 run : List Nat) (t : Nat) : List Nat := less p0 run ++ [t] ++ run ++ less q0 run

theorem mem_before {p0 q0 run : List Nat} {t v : Nat} (h : v ∈ p0 ++ t :: q0) : v ∈ before p0 q0 run t := by
  unfold before
  by_cases hr : v ∈ run
  · simp [hr]
  · simp at h
    rcases h with r | r | r
    · simp [mem_less r hr]
    · simp [r]
    · simp [mem_less r hr]
theorem mem_behind {p0 q0 run : List Nat} {t v : Nat} (h : v ∈ p0 ++ t :: q0) : v ∈ behind p0 q0 run t := by
  unfold behind
  by_cases hr : v ∈ run
  · simp [hr]
  · simp at h
    rcases h with r | r | r
    · simp [mem_less r hr]
    · simp [r]
    · simp [mem_less r hr]

theorem ring_len {n : Nat} {l : List Nat} (nd : l.Nodup) (hlt : ∀ v ∈ l, v < n) (hall : ∀ v, v < n → v ∈ l) : l.length = n := len_of n l nd (fun v => ⟨hlt v, hall v⟩)

theorem nodup_before {p0 q0 run : List Nat} {t : Nat} (nd : (p0 ++ t :: q0).Nodup) (hr : run.Nodup) (ht : t ∉ run) : (before p0 q0 run t).Nodup := by
  unfold before
  have nd1 : (less p0 run ++ t :: less q0 run).Nodup := by
    rw [← less_cons t q0 run ht, ← less_append]; exact nd.filter _
  rw [List.nodup_append] at nd1
  rw [List.append_assoc, List.nodup_append]
  refine ⟨nd1.1, ?_, ?_⟩
  · rw [List.nodup_append]
    refine ⟨hr, nd1.2.1, fun a ha b hb e => ?_⟩
    subst e
    simp at hb
    rcases hb with r | r
    · exact ht (r ▸ ha)
    · exact not_mem_less ha r
  · intro a ha b hb e
    subst e
    simp at hb
    rcases hb with r | r | r
    · exact not_mem_less r ha
    · exact nd1.2.2 a ha a (by simp [r]) rfl
    · exact nd1.2.2 a ha a (by simp [r]) rfl
theorem nodup_behind {p0 q0 run : List Nat} {t : Nat} (nd : (p0 ++ t :: q0).Nodup) (hr : run.Nodup) (ht : t ∉ run) : (behind p0 q0 run t).Nodup := by
  unfold behind
  have nd1 : (less p0 run ++ t :: less q0 run).Nodup := by
    rw [← less_cons t q0 run ht, ← less_append]; exact nd.filter _
  have hp : (less p0 run ++ [t] ++ run ++ less q0 run).Perm (less p0 run ++ t :: less q0 run ++ run) := by
    rw [List.append_assoc, List.append_assoc, List.append_assoc]
    apply List.Perm.append_left
    show (t :: (run ++ less q0 run)).Perm (t :: (less q0 run ++ run))
    exact List.Perm.cons _ List.perm_append_comm
  rw [hp.nodup_iff, List.nodup_append]
  refine ⟨nd1, hr, fun a ha b hb e => ?_⟩
  subst e
  simp at ha
  rcases ha with r | r | r
  · exact not_mem_less hb r
  · exact ht (r ▸ hb)
  · exact not_mem_less hb r

end Go.Proofs.Ybulkawna
