import Derived.Test.YbulkawnaOrders
import Derived.Test.YbulkawnaKit
namespace Go.Proofs.Ybulkawna
open Go.RowKit
set_option linter.unusedVariables false

/-- The slot that operation i of the region writes. -/
def d6 (i : Nat) : Nat := if i = 13 then 10 else 39 + i

theorem d6_inj {i j : Nat} (hi : i < 14) (hj : j < 14) (h : d6 i = d6 j) : i = j := by
  unfold d6 at h; split at h <;> split at h <;> omega

/-- The frame a0, the slots of the region holding x. -/
def C6 (a0 : Act) (x : Nat → Value) : Act := { a0 with tmps := a0.tmps.mapIdx fun j v => if j = 10 ∨ (39 ≤ j ∧ j < 52) then x j else v }

theorem C6_self (a0 : Act) : C6 a0 (fun j => a0.tmps.getD j undef) = a0 := by
  obtain ⟨t, d⟩ := a0
  unfold C6
  congr 1
  apply Array.ext
  · simp
  · intro j h1 h2
    simp only [Array.getElem_mapIdx]
    split
    · simp
    · rfl
theorem C6_put (a0 : Act) (x : Nat → Value) (i : Nat) (hi : i < 14) (v : Value) : (C6 a0 x).put (some (d6 i)) v = C6 a0 (upd x (d6 i) v) := by
  have hd : d6 i = 10 ∨ (39 ≤ d6 i ∧ d6 i < 52) := by unfold d6; split <;> omega
  simp only [C6, Act.put, Act.mk.injEq, and_true]
  apply Array.ext_getElem?
  intro j
  rw [Array.getElem?_setIfInBounds, Array.getElem?_mapIdx, Array.getElem?_mapIdx, Array.size_mapIdx]
  by_cases e : d6 i = j
  · rw [if_pos e]
    subst e
    by_cases hl : d6 i < a0.tmps.size
    · rw [if_pos hl, Array.getElem?_eq_getElem hl]
      simp only [Option.map_some, upd_same]
      rw [if_pos hd]
    · rw [if_neg hl, Array.getElem?_eq_none (by omega)]; rfl
  · rw [if_neg e]
    have : upd x (d6 i) v j = x j := upd_other _ _ _ _ (fun q => e q.symm)
    rw [this]
theorem C6_eval (a0 : Act) (x : Nat → Value) (i : Nat) (hi : i < 14) (hs : a0.tmps.size = 169) : (C6 a0 x).eval (.tmp (d6 i)) = x (d6 i) := by
  have hd : d6 i = 10 ∨ (39 ≤ d6 i ∧ d6 i < 52) := by unfold d6; split <;> omega
  have hl : d6 i < 169 := by omega
  show (C6 a0 x).tmps.getD (d6 i) undef = _
  unfold C6
  rw [Array.getD_eq_getD_getElem?, Array.getElem?_eq_getElem (by simp; omega)]
  simp only [Array.getElem_mapIdx, Option.getD_some]
  rw [if_pos hd]
theorem C6_nine (a0 : Act) (x : Nat → Value) (hs : a0.tmps.size = 169) : (C6 a0 x).eval (.tmp 9) = a0.eval (.tmp 9) := by
  show (C6 a0 x).tmps.getD 9 undef = a0.tmps.getD 9 undef
  unfold C6
  rw [Array.getD_eq_getD_getElem?, Array.getD_eq_getD_getElem?, Array.getElem?_eq_getElem (by simp; omega), Array.getElem?_eq_getElem (by omega)]
  simp only [Array.getElem_mapIdx, Option.getD_some]
  rw [if_neg (by omega)]

/-- The chain of puts. -/
def P6 (a0 : Act) (x : Nat → Value) : Act :=
  ((((((((((((((a0.put (some 10) (x 10)).put (some 39) (x 39)).put (some 40) (x 40)).put (some 41) (x 41)).put (some 42) (x 42)).put (some 43) (x 43)).put (some 44) (x 44)).put (some 45) (x 45)).put (some 46) (x 46)).put (some 47) (x 47)).put (some 48) (x 48)).put (some 49) (x 49)).put (some 50) (x 50)).put (some 51) (x 51))
theorem C6_congr (a0 : Act) (x y : Nat → Value) (h : ∀ j, (j = 10 ∨ (39 ≤ j ∧ j < 52)) → x j = y j) : C6 a0 x = C6 a0 y := by
  have : (fun (j : Nat) (v : Value) => if j = 10 ∨ (39 ≤ j ∧ j < 52) then x j else v) = fun (j : Nat) (v : Value) => if j = 10 ∨ (39 ≤ j ∧ j < 52) then y j else v := by
    funext j v
    split
    · rename_i hj; exact h j hj
    · rfl
  unfold C6
  rw [this]
theorem C6_chain (a0 : Act) (x : Nat → Value) : C6 a0 x = P6 a0 x := by
  have q0 : ∀ y v, (C6 a0 y).put (some 10) v = C6 a0 (upd y 10 v) := fun y v => C6_put a0 y 13 (by omega) v
  have q1 : ∀ y v, (C6 a0 y).put (some 39) v = C6 a0 (upd y 39 v) := fun y v => C6_put a0 y 0 (by omega) v
  have q2 : ∀ y v, (C6 a0 y).put (some 40) v = C6 a0 (upd y 40 v) := fun y v => C6_put a0 y 1 (by omega) v
  have q3 : ∀ y v, (C6 a0 y).put (some 41) v = C6 a0 (upd y 41 v) := fun y v => C6_put a0 y 2 (by omega) v
  have q4 : ∀ y v, (C6 a0 y).put (some 42) v = C6 a0 (upd y 42 v) := fun y v => C6_put a0 y 3 (by omega) v
  have q5 : ∀ y v, (C6 a0 y).put (some 43) v = C6 a0 (upd y 43 v) := fun y v => C6_put a0 y 4 (by omega) v
  have q6 : ∀ y v, (C6 a0 y).put (some 44) v = C6 a0 (upd y 44 v) := fun y v => C6_put a0 y 5 (by omega) v
  have q7 : ∀ y v, (C6 a0 y).put (some 45) v = C6 a0 (upd y 45 v) := fun y v => C6_put a0 y 6 (by omega) v
  have q8 : ∀ y v, (C6 a0 y).put (some 46) v = C6 a0 (upd y 46 v) := fun y v => C6_put a0 y 7 (by omega) v
  have q9 : ∀ y v, (C6 a0 y).put (some 47) v = C6 a0 (upd y 47 v) := fun y v => C6_put a0 y 8 (by omega) v
  have q10 : ∀ y v, (C6 a0 y).put (some 48) v = C6 a0 (upd y 48 v) := fun y v => C6_put a0 y 9 (by omega) v
  have q11 : ∀ y v, (C6 a0 y).put (some 49) v = C6 a0 (upd y 49 v) := fun y v => C6_put a0 y 10 (by omega) v
  have q12 : ∀ y v, (C6 a0 y).put (some 50) v = C6 a0 (upd y 50 v) := fun y v => C6_put a0 y 11 (by omega) v
  have q13 : ∀ y v, (C6 a0 y).put (some 51) v = C6 a0 (upd y 51 v) := fun y v => C6_put a0 y 12 (by omega) v
  have e : P6 a0 x = P6 (C6 a0 (fun j => a0.tmps.getD j undef)) x := by rw [C6_self]
  rw [e]
  unfold P6
  rw [q0, q1, q2, q3, q4, q5, q6, q7, q8, q9, q10, q11, q12, q13]
  apply C6_congr
  intro j hj
  have hc : j = 10 ∨ j = 39 ∨ j = 40 ∨ j = 41 ∨ j = 42 ∨ j = 43 ∨ j = 44 ∨ j = 45 ∨ j = 46 ∨ j = 47 ∨ j = 48 ∨ j = 49 ∨ j = 50 ∨ j = 51 := by omega
  rcases hc with rfl | rfl | rfl | rfl | rfl | rfl | rfl | rfl | rfl | rfl | rfl | rfl | rfl | rfl <;> simp [upd]

end Go.Proofs.Ybulkawna
