import Derived.Test.YbulkawnaBLaw
import Derived.ProofKit
import Derived.OpenShut
import Derived.Deep.Strs
import Derived.Deep.Slices
namespace Go.Proofs.Ybulkawna
open Go.ChangeShapes Go.WideShapes Go.ChangeAt Go.RowKit Go.Deep
set_option linter.unusedVariables false

set_option maxRecDepth 100000 in
theorem b_law_long (ao1 ao2 : Option Addr) (l1 c1 l2 c2 : Nat) (k tt : Int) (w : World)
    (h1 : (l1 : Int) ≤ 9223372036854775807) (h2 : (l2 : Int) ≤ 9223372036854775807) (h : 1024 < (l1 : Int) ∨ 1024 < (l2 : Int)) :
    Calls Yba.prog 6 #[.int .u8 k, .slice ao1 l1 c1, .int .u16 tt, .slice ao2 l2 c2] w fun e w' => e = .returned (.bool true) ∧ Below w.heap.size w w' := by
  by_cases q : 1024 < (l1 : Int)
  · have hd : decide (1024 < (l1 : Int)) = true := by simpa using q
    go_enter Yba.func6, Yba.ntmps6
    go_wp2
    go_ret
    exact ⟨rfl, Below.refl _ _⟩
  · have hd : decide (1024 < (l1 : Int)) = false := by simpa using q
    have q2 : 1024 < (l2 : Int) := by omega
    have hd2 : decide (1024 < (l2 : Int)) = true := by simpa using q2
    go_enter Yba.func6, Yba.ntmps6
    go_wp2
    go_ret
    exact ⟨rfl, Below.refl _ _⟩

theorem bcame_of {W : World} {a : Addr} {len cap : Nat} {c : Nat → Value} (hl : len ≤ cap) (h : ∀ i, i < cap → W.cell? (a.add i) = some (c i)) : BCame W.heap.size (some a) len c W := by
  intro j hj
  obtain ⟨b, off, spot⟩ := a
  have hspot : spot = none := by simpa [Addr.add] using World.cell?_spot (h 0 (by omega))
  subst hspot
  have hc : W.cell? ⟨b, off + j, none⟩ = some (c j) := by rw [← Go.WideShapes.add_plain]; exact h j (by omega)
  exact ⟨b, off, rfl, World.block_lt_of_cell? (a := ⟨b, off + j, none⟩) _ hc, hc⟩

theorem bcame_ints {H : Type} {enc : TypeId × Value → H} {P : Program} {W : World} {t e : TypeId} {k : IntKind} {a : Option Addr} {len cap fuel : Nat} {x : DataW H × List MemPlace}
    (ht : P.underlying t = some (.slice e)) (he : P.underlying e = some (.int k)) (hc : P.cellsOf e = 1) (h0 : (Lit.int k 0).wf = true)
    (h : DataW.trod enc P W 0 (fun _ => true) true fuel t [.slice a len cap] = some x) :
    ∃ z : Nat → Int, BCame W.heap.size a len (fun j => .int k (z j)) W ∧ (∀ j, (Lit.int k (z j)).wf = true) ∧ len ≤ maxLen := by
  rcases open_ints ht he hc h with ⟨hcs, _⟩ | ⟨y, l, c, zs, hcs, _, hl, hm, hz, _, hcell, hwz⟩
  · simp at hcs
    obtain ⟨rfl, rfl, rfl⟩ := hcs
    exact ⟨fun _ => 0, fun j hj => absurd hj (by omega), fun _ => h0, Nat.zero_le _⟩
  · simp at hcs
    obtain ⟨rfl, rfl, rfl⟩ := hcs
    have hz' : zs.length = cap := by simpa using hz
    refine ⟨fun j => zs.getD j 0, bcame_of hl (fun i hi => hcell i (by omega)), fun j => ?_, Nat.le_trans hl hm⟩
    by_cases hj : j < zs.length
    · have : zs.getD j 0 ∈ zs := by rw [List.getD_eq_getElem?_getD, List.getElem?_eq_getElem hj]; exact List.getElem_mem hj
      exact hwz _ this
    · have : zs.getD j 0 = 0 := by rw [List.getD_eq_getElem?_getD, List.getElem?_eq_none (by omega)]; rfl
      show (Lit.int k (zs.getD j 0)).wf = true
      rw [this]; exact h0

/-- The steps that came in. -/
theorem bcame_steps {H : Type} {enc : TypeId × Value → H} {W : World} {a : Option Addr} {len cap fuel : Nat} {x : DataW H × List MemPlace}
    (h : DataW.trod enc Yba.prog W 0 (fun _ => true) true fuel 71 [.slice a len cap] = some x) :
    ∃ A B C : Nat → Int, BCame3 W.heap.size a len (fun j => .int .u8 (A j)) (fun j => .int .u16 (B j)) (fun j => .int .u16 (C j)) W ∧
      (∀ j, (Lit.int .u8 (A j)).wf = true) ∧ (∀ j, (Lit.int .u16 (B j)).wf = true) ∧ (∀ j, (Lit.int .u16 (C j)).wf = true) ∧ len ≤ maxLen := by
  have c78 : Yba.prog.cellsOf 78 = 3 := by kernel_rfl
  have c5 : Yba.prog.cellsOf 5 = 1 := by kernel_rfl
  have c40 : Yba.prog.cellsOf 40 = 1 := by kernel_rfl
  rcases open_slice Yba.underlying71 h with ⟨hcs, _⟩ | ⟨ad, l, c, m, n, D, Pl, hcs, _, hl, hm, hmm, _, hel⟩
  · simp at hcs
    obtain ⟨rfl, rfl, rfl⟩ := hcs
    exact ⟨fun _ => 0, fun _ => 0, fun _ => 0, fun j hj => absurd hj (by omega), fun _ => rfl, fun _ => rfl, fun _ => rfl, Nat.zero_le _⟩
  · simp at hcs
    obtain ⟨rfl, rfl, rfl⟩ := hcs
    simp only [if_true] at hmm
    subst hmm
    rw [c78] at hel
    have key : ∀ i, i < len → ∃ y : Int × Int × Int, (W.cell? (ad.add (i * 3)) = some (.int .u8 y.1) ∧ W.cell? (ad.add (i * 3 + 1)) = some (.int .u16 y.2.1) ∧ W.cell? (ad.add (i * 3 + 2)) = some (.int .u16 y.2.2)) ∧
        (Lit.int .u8 y.1).wf = true ∧ (Lit.int .u16 y.2.1).wf = true ∧ (Lit.int .u16 y.2.2).wf = true := by
      intro i hi
      obtain ⟨cs', hcells, ht⟩ := hel i (by omega)
      obtain ⟨_, hlen, hcell⟩ := World.cells?_some hcells
      obtain ⟨y0, y1, y2, n', _, _, t0, t1, t2⟩ := trod_struct3 Yba.underlying78 ht
      simp only [c5, c40] at t0 t1 t2
      obtain ⟨n0, e0, _, f0⟩ := DataW.trod_int Yba.underlying5 t0
      obtain ⟨n1, e1, _, f1⟩ := DataW.trod_int Yba.underlying40 t1
      obtain ⟨n2, e2, _, f2⟩ := DataW.trod_int Yba.underlying40 t2
      obtain ⟨v0, v1, v2, rfl⟩ : ∃ v0 v1 v2, cs' = [v0, v1, v2] := by
        match cs', hlen with
        | [v0, v1, v2], _ => exact ⟨v0, v1, v2, rfl⟩
      simp at e0 e1 e2
      subst e0 e1 e2
      have g0 := hcell 0 (by omega)
      have g1 := hcell 1 (by omega)
      have g2 := hcell 2 (by omega)
      rw [add_add] at g0 g1 g2
      exact ⟨(n0, n1, n2), ⟨g0, g1, g2⟩, f0, f1, f2⟩
    obtain ⟨f, hf⟩ := choose_lt key
    refine ⟨fun j => if j < len then (f j).1 else 0, fun j => if j < len then (f j).2.1 else 0, fun j => if j < len then (f j).2.2 else 0, ?_, ?_, ?_, ?_, Nat.le_trans hl hm⟩
    · intro j hj
      simp only [if_pos hj]
      obtain ⟨b, off, spot⟩ := ad
      have hspot : spot = none := by simpa [Addr.add] using World.cell?_spot (hf 0 (by omega)).1.1
      subst hspot
      obtain ⟨⟨g0, g1, g2⟩, _⟩ := hf j hj
      rw [Go.WideShapes.add_plain] at g0 g1 g2
      exact ⟨b, off, rfl, World.block_lt_of_cell? (a := ⟨b, off + j * 3, none⟩) _ g0, g0, g1, g2⟩
    · intro j
      by_cases hj : j < len
      · simp only [if_pos hj]; exact (hf j hj).2.1
      · simp only [if_neg hj]; decide
    · intro j
      by_cases hj : j < len
      · simp only [if_pos hj]; exact (hf j hj).2.2.1
      · simp only [if_neg hj]; decide
    · intro j
      by_cases hj : j < len
      · simp only [if_pos hj]; exact (hf j hj).2.2.2
      · simp only [if_neg hj]; decide

end Go.Proofs.Ybulkawna
