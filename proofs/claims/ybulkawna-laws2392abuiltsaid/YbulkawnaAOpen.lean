import Derived.Test.YbulkawnaAListed
import Derived.ProofKit
import Derived.OpenShut
import Derived.Deep.Grids
namespace Go.Proofs.Ybulkawna
open Go.ChangeShapes Go.WideShapes Go.ChangeAt Go.RowKit Go.Deep
set_option linter.unusedVariables false

theorem came_of {W : World} {a : Addr} {len cap : Nat} {c : Nat → Value} (hl : len ≤ cap) (h : ∀ i, i < cap → W.cell? (a.add i) = some (c i)) : Came W.heap.size (some a) len c W := by
  intro j hj
  obtain ⟨b, off, spot⟩ := a
  have hspot : spot = none := by simpa [Addr.add] using World.cell?_spot (h 0 (by omega))
  subst hspot
  have hc : W.cell? ⟨b, off + j, none⟩ = some (c j) := by rw [← Go.WideShapes.add_plain]; exact h j (by omega)
  exact ⟨b, off, rfl, World.block_lt_of_cell? (a := ⟨b, off + j, none⟩) _ hc, hc⟩

theorem came_ints {H : Type} {enc : TypeId × Value → H} {P : Program} {W : World} {t e : TypeId} {k : IntKind} {a : Option Addr} {len cap fuel : Nat} {x : DataW H × List MemPlace}
    (ht : P.underlying t = some (.slice e)) (he : P.underlying e = some (.int k)) (hc : P.cellsOf e = 1) (h0 : (Lit.int k 0).wf = true)
    (h : DataW.trod enc P W 0 (fun _ => true) true fuel t [.slice a len cap] = some x) :
    ∃ z : Nat → Int, Came W.heap.size a len (fun j => .int k (z j)) W ∧ (∀ j, (Lit.int k (z j)).wf = true) ∧ len ≤ maxLen := by
  rcases open_ints ht he hc h with ⟨hcs, _⟩ | ⟨y, l, c, zs, hcs, _, hl, hm, hz, _, hcell, hwz⟩
  · simp at hcs
    obtain ⟨rfl, rfl, rfl⟩ := hcs
    exact ⟨fun _ => 0, fun j hj => absurd hj (by omega), fun _ => h0, Nat.zero_le _⟩
  · simp at hcs
    obtain ⟨rfl, rfl, rfl⟩ := hcs
    have hz' : zs.length = cap := by simpa using hz
    refine ⟨fun j => zs.getD j 0, came_of hl (fun i hi => hcell i (by omega)), fun j => ?_, Nat.le_trans hl hm⟩
    by_cases hj : j < zs.length
    · have : zs.getD j 0 ∈ zs := by rw [List.getD_eq_getElem?_getD, List.getElem?_eq_getElem hj]; exact List.getElem_mem hj
      exact hwz _ this
    · have : zs.getD j 0 = 0 := by rw [List.getD_eq_getElem?_getD, List.getElem?_eq_none (by omega)]; rfl
      show (Lit.int k (zs.getD j 0)).wf = true
      rw [this]; exact h0

theorem came_bools {H : Type} {enc : TypeId × Value → H} {P : Program} {W : World} {t e : TypeId} {a : Option Addr} {len cap fuel : Nat} {x : DataW H × List MemPlace}
    (ht : P.underlying t = some (.slice e)) (he : P.underlying e = some .bool) (hc : P.cellsOf e = 1)
    (h : DataW.trod enc P W 0 (fun _ => true) true fuel t [.slice a len cap] = some x) :
    ∃ z : Nat → Bool, Came W.heap.size a len (fun j => .bool (z j)) W ∧ len ≤ maxLen := by
  rcases open_bools ht he hc h with ⟨hcs, _⟩ | ⟨y, l, c, B, hcs, _, hl, hm, _, hcell⟩
  · simp at hcs
    obtain ⟨rfl, rfl, rfl⟩ := hcs
    exact ⟨fun _ => false, fun j hj => absurd hj (by omega), Nat.zero_le _⟩
  · simp at hcs
    obtain ⟨rfl, rfl, rfl⟩ := hcs
    exact ⟨B, came_of hl hcell, Nat.le_trans hl hm⟩

end Go.Proofs.Ybulkawna
