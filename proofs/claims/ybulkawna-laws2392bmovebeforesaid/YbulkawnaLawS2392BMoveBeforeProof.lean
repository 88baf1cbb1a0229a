import Derived.Test.YbulkawnaBOpen
import Derived.ProofKit
import Derived.OpenShut
import Derived.ShutString
import Derived.ChangeOld
import Derived.Below
namespace Go.Proofs.Ybulkawna.lawS2392BMoveBefore
open Go.ChangeShapes Go.WideShapes Go.ChangeAt Go.RowKit
set_option linter.unusedVariables false

theorem own : ownKnob Yba.prog.godebug = none := by kernel_rfl
theorem laidOut : laidOutB Yba.prog = true := by kernel_rfl

theorem walk (k : Int) (w0 : (Lit.int .u8 k).wf = true) (a1 : Option Addr) (l1 c1 : Nat) (A B C : Nat → Int) {W : World} (cm1 : BCame3 W.heap.size a1 l1 (fun j => .int .u8 (A j)) (fun j => .int .u16 (B j)) (fun j => .int .u16 (C j)) W)
    (wA : ∀ j, (Lit.int .u8 (A j)).wf = true) (wB : ∀ j, (Lit.int .u16 (B j)).wf = true) (wC : ∀ j, (Lit.int .u16 (C j)).wf = true) (lm1 : l1 ≤ maxLen) (t : Int) (w2 : (Lit.int .u16 t).wf = true)
    (a3 : Option Addr) (l3 c3 : Nat) (z : Nat → Int) (cm3 : BCame W.heap.size a3 l3 (fun j => .int .u16 (z j)) W) (wz : ∀ j, (Lit.int .u16 (z j)).wf = true) (lm3 : l3 ≤ maxLen) (w : World) (hw : w = W := by rfl) :
    Calls Yba.prog 6 #[.int .u8 k, .slice a1 l1 c1, .int .u16 t, .slice a3 l3 c3] w fun e w' => e = .returned (.bool true) ∧ Below w.heap.size w w' := by
  subst hw
  unfold maxLen at lm1 lm3
  by_cases h : 1024 < (l1 : Int) ∨ 1024 < (l3 : Int)
  · exact b_law_long a1 a3 l1 c1 l3 c3 k t w (by omega) (by omega) h
  · exact b_law k (bounds_u8 w0) a1 l1 c1 A B C (fun j => bounds_u8 (wA j)) (fun j => bounds_u16 (wB j)) (fun j => bounds_u16 (wC j)) t (bounds_u16 w2) a3 l3 c3 z (fun j => bounds_u16 (wz j)) (by omega) (by omega) w cm1 cm3

set_option maxRecDepth 100000 in
theorem lifted (os : Os) (started : os.Started) (H : Type) (enc : TypeId × Value → H) :
    ReturnsInHanded {} Yba.checked os 6 .any (Rows.lawS2392BMoveBeforeSpec.pre6 enc Yba.prog Yba.f6 Rows.lawS2392BMoveBeforeRow.domain false) (Rows.lawS2392BMoveBeforeSpec.post enc Yba.prog Yba.f6 false true false false) := by
  refine returnsInHanded_of_change (C := Yba.checked) own started (by kernel_rfl) Yba.func6
    (ChangeSpec.witness6 (enc := enc) (C := Yba.checked) false ⟨#[], #[.int .u8 0, .slice none 0 0, .int .u16 0, .slice none 0 0], []⟩ 8 (by kernel_rfl) (by kernel_rfl) (by kernel_rfl) (by kernel_rfl)) ?_
  intro W base args ds gs before hval0 hW hcnd _
  have hval : ∀ (j : Nat) t v, Yba.f6.params[j]? = some t → args[j]? = some v → Value.okWide Yba.prog W .any base t v := hval0
  have hW' := hW
  obtain ⟨p, q, hA0, hV, rfl, hfz, hnd⟩ := hW
  have hA : DataW.TrodAll enc Yba.prog W 0 (fun _ => true) true Yba.f6.params.toList args.toList ds p := hA0
  rw [Yba.params6] at hA hval
  obtain ⟨v0, vs0, d0, ds0, p0, q0, hargs, rfl, rfl, h0, r0⟩ := trodAll_cons hA
  obtain ⟨v1, vs1, d1, ds1, p1, q1, rfl, rfl, rfl, h1, r1⟩ := trodAll_cons r0
  obtain ⟨v2, vs2, d2, ds2, p2, q2, rfl, rfl, rfl, h2, r2⟩ := trodAll_cons r1
  obtain ⟨v3, vs3, d3, ds3, p3, q3, rfl, rfl, rfl, h3, r3⟩ := trodAll_cons r2
  obtain ⟨rfl, rfl, rfl⟩ := trodAll_nil r3
  obtain rfl : args = #[v0, v1, v2, v3] := by cases args; simp_all
  obtain ⟨rfl, rfl⟩ := trodVars_none hV
  obtain ⟨a0, rfl, rfl, rfl, w0⟩ := open_int Yba.underlying5 (hval 0 5 v0 rfl rfl) h0
  obtain ⟨a1, len1, cap1, rfl⟩ := okWide_slice Yba.underlying71 (hval 1 71 v1 rfl rfl)
  have k1 := h1
  have lt1 : ∀ x ∈ p1, x.block < W.heap.size := by obtain ⟨m, hm⟩ := k1; exact DataW.trod_lt m _ _ _ hm
  obtain ⟨A1, B1, C1, cm1, wA1, wB1, wC1, lm1⟩ : ∃ A B C : Nat → Int, BCame3 W.heap.size a1 len1 (fun j => .int .u8 (A j)) (fun j => .int .u16 (B j)) (fun j => .int .u16 (C j)) W ∧ (∀ j, (Lit.int .u8 (A j)).wf = true) ∧ (∀ j, (Lit.int .u16 (B j)).wf = true) ∧ (∀ j, (Lit.int .u16 (C j)).wf = true) ∧ len1 ≤ maxLen := by
    obtain ⟨fuel, hf⟩ := h1
    exact bcame_steps hf
  obtain ⟨a2, rfl, rfl, rfl, w2⟩ := open_int Yba.underlying40 (hval 2 40 v2 rfl rfl) h2
  obtain ⟨a3, len3, cap3, rfl⟩ := okWide_slice Yba.underlying41 (hval 3 41 v3 rfl rfl)
  have k3 := h3
  have lt3 : ∀ x ∈ p3, x.block < W.heap.size := by obtain ⟨m, hm⟩ := k3; exact DataW.trod_lt m _ _ _ hm
  obtain ⟨z3, cm3, wf3, lm3⟩ : ∃ z : Nat → Int, BCame W.heap.size a3 len3 (fun j => .int .u16 (z j)) W ∧ (∀ j, (Lit.int .u16 (z j)).wf = true) ∧ len3 ≤ maxLen := by
    obtain ⟨fuel, hf⟩ := h3
    exact bcame_ints Yba.underlying41 Yba.underlying40 (by kernel_rfl) (by decide) hf
  clear hA0 hval0
  refine (walk a0 w0 a1 len1 cap1 A1 B1 C1 cm1 wA1 wB1 wC1 lm1 a2 w2 a3 len3 cap3 z3 cm3 wf3 lm3 W).mono fun e W' ⟨he, bel⟩ => ?_
  subst he
  exact ⟨_, rfl, _, _, _, [], _, [], hW', trodAll_mk1 (shut_bool Yba.underlying4 _), (trodAll_cons_mk (shut_int Yba.underlying5 w0) (trodAll_cons_mk (Below.trod laidOut (by kernel_rfl) (of_decide_eq_true (by kernel_rfl)) k1 bel lt1) (trodAll_cons_mk (shut_int Yba.underlying40 w2) (trodAll_cons_mk (Below.trod laidOut (by kernel_rfl) (of_decide_eq_true (by kernel_rfl)) k3 bel lt3) trodAll_mk0)))), rfl, bel.frame _, fun h => by cases h⟩

theorem over : Rows.lawS2392BMoveBeforeRow.holds Yba.pinned (OpenSpec.ofChange Rows.lawS2392BMoveBeforeSpec) :=
  OpenClaim.holds_of_wide 6 Yba.f6 rfl rfl rfl rfl rfl rfl rfl ⟨rfl, rfl, rfl, rfl, rfl⟩ rfl rfl rfl rfl rfl (by kernel_rfl) Yba.func6 (by kernel_rfl)
    (of_decide_eq_true (by kernel_rfl)) (by unfold Func.isWrapper; first | (rw [if_pos (by decide +kernel)]; kernel_rfl) | (rw [if_neg (by decide +kernel)]; exact ⟨rfl, rfl⟩))
    (fun os started H enc _ => lifted os started H enc)

theorem proved : Rows.LawS2392BMoveBeforeSaid := over

end Go.Proofs.Ybulkawna.lawS2392BMoveBefore
