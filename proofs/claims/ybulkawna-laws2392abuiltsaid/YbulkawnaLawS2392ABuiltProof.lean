import Derived.Test.YbulkawnaABuilt
import Derived.Test.YbulkawnaAOpen
import Derived.ProofKit
import Derived.OpenShut
import Derived.ShutString
import Derived.ChangeOld
import Derived.Below
namespace Go.Proofs.Ybulkawna.lawS2392ABuilt
open Go.ChangeShapes Go.WideShapes Go.ChangeAt Go.RowKit
set_option linter.unusedVariables false

theorem own : ownKnob Yba.prog.godebug = none := by kernel_rfl
theorem laidOut : laidOutB Yba.prog = true := by kernel_rfl

theorem walk (k : Int) (w0 : (Lit.int .u16 k).wf = true) (a1 : Option Addr) (l1 c1 : Nat) (mv : Nat → Int) {W : World} (cm1 : Came W.heap.size a1 l1 (fun j => .int .u16 (mv j)) W) (wf1 : ∀ j, (Lit.int .u16 (mv j)).wf = true) (lm1 : l1 ≤ maxLen)
    (a2 : Option Addr) (l2 c2 : Nat) (hh : Nat → Bool) (cm2 : Came W.heap.size a2 l2 (fun j => .bool (hh j)) W) (lm2 : l2 ≤ maxLen) (wk : Bool) (w : World) (hw : w = W := by rfl) :
    Calls Yba.prog 5 #[.int .u16 k, .slice a1 l1 c1, .slice a2 l2 c2, .bool wk] w fun e w' => e = .returned (.bool true) ∧ Below w.heap.size w w' := by
  subst hw
  have b0 := bounds_u16 w0
  unfold maxLen at lm1 lm2
  by_cases h : 1024 < (l1 : Int) ∨ 4096 < (l2 : Int)
  · exact a_built_long a1 a2 l1 c1 l2 c2 k wk w (by omega) (by omega) h
  · exact a_built a1 a2 l1 c1 l2 c2 mv hh k wk w b0.1 b0.2 (fun j => bounds_u16 (wf1 j)) (by omega) (by omega) cm1 cm2

set_option maxRecDepth 100000 in
theorem lifted (os : Os) (started : os.Started) (H : Type) (enc : TypeId × Value → H) :
    ReturnsInHanded {} Yba.checked os 5 .any (Rows.lawS2392ABuiltSpec.pre6 enc Yba.prog Yba.f5 Rows.lawS2392ABuiltRow.domain false) (Rows.lawS2392ABuiltSpec.post enc Yba.prog Yba.f5 false true false false) := by
  refine returnsInHanded_of_change (C := Yba.checked) own started (by kernel_rfl) Yba.func5
    (ChangeSpec.witness6 (enc := enc) (C := Yba.checked) false ⟨#[], #[.int .u16 0, .slice none 0 0, .slice none 0 0, .bool false], []⟩ 8 (by kernel_rfl) (by kernel_rfl) (by kernel_rfl) (by kernel_rfl)) ?_
  intro W base args ds gs before hval0 hW hcnd _
  have hval : ∀ (j : Nat) t v, Yba.f5.params[j]? = some t → args[j]? = some v → Value.okWide Yba.prog W .any base t v := hval0
  have hW' := hW
  obtain ⟨p, q, hA0, hV, rfl, hfz, hnd⟩ := hW
  have hA : DataW.TrodAll enc Yba.prog W 0 (fun _ => true) true Yba.f5.params.toList args.toList ds p := hA0
  rw [Yba.params5] at hA hval
  obtain ⟨v0, vs0, d0, ds0, p0, q0, hargs, rfl, rfl, h0, r0⟩ := trodAll_cons hA
  obtain ⟨v1, vs1, d1, ds1, p1, q1, rfl, rfl, rfl, h1, r1⟩ := trodAll_cons r0
  obtain ⟨v2, vs2, d2, ds2, p2, q2, rfl, rfl, rfl, h2, r2⟩ := trodAll_cons r1
  obtain ⟨v3, vs3, d3, ds3, p3, q3, rfl, rfl, rfl, h3, r3⟩ := trodAll_cons r2
  obtain ⟨rfl, rfl, rfl⟩ := trodAll_nil r3
  obtain rfl : args = #[v0, v1, v2, v3] := by cases args; simp_all
  obtain ⟨rfl, rfl⟩ := trodVars_none hV
  obtain ⟨a0, rfl, rfl, rfl, w0⟩ := open_int Yba.underlying40 (hval 0 40 v0 rfl rfl) h0
  obtain ⟨a1, len1, cap1, rfl⟩ := okWide_slice Yba.underlying41 (hval 1 41 v1 rfl rfl)
  have k1 := h1
  have lt1 : ∀ x ∈ p1, x.block < W.heap.size := by obtain ⟨m, hm⟩ := k1; exact DataW.trod_lt m _ _ _ hm
  obtain ⟨z1, cm1, wf1, lm1⟩ : ∃ z : Nat → Int, Came W.heap.size a1 len1 (fun j => .int .u16 (z j)) W ∧ (∀ j, (Lit.int .u16 (z j)).wf = true) ∧ len1 ≤ maxLen := by
    obtain ⟨fuel, hf⟩ := h1
    exact came_ints Yba.underlying41 Yba.underlying40 (by kernel_rfl) (by decide) hf
  obtain ⟨a2, len2, cap2, rfl⟩ := okWide_slice Yba.underlying22 (hval 2 22 v2 rfl rfl)
  have k2 := h2
  have lt2 : ∀ x ∈ p2, x.block < W.heap.size := by obtain ⟨m, hm⟩ := k2; exact DataW.trod_lt m _ _ _ hm
  obtain ⟨z2, cm2, lm2⟩ : ∃ z : Nat → Bool, Came W.heap.size a2 len2 (fun j => .bool (z j)) W ∧ len2 ≤ maxLen := by
    obtain ⟨fuel, hf⟩ := h2
    exact came_bools Yba.underlying22 Yba.underlying4 (by kernel_rfl) hf
  obtain ⟨a3, rfl, rfl, rfl⟩ := open_bool Yba.underlying4 (hval 3 4 v3 rfl rfl) h3
  clear hA0 hval0
  refine (walk a0 w0 a1 len1 cap1 z1 cm1 wf1 lm1 a2 len2 cap2 z2 cm2 lm2 a3 W).mono fun e W' ⟨he, bel⟩ => ?_
  subst he
  exact ⟨_, rfl, _, _, _, [], _, [], hW', trodAll_mk1 (shut_bool Yba.underlying4 _), (trodAll_cons_mk (shut_int Yba.underlying40 w0) (trodAll_cons_mk (Below.trod laidOut (by kernel_rfl) (of_decide_eq_true (by kernel_rfl)) k1 bel lt1) (trodAll_cons_mk (Below.trod laidOut (by kernel_rfl) (of_decide_eq_true (by kernel_rfl)) k2 bel lt2) (trodAll_cons_mk (shut_bool Yba.underlying4 _) trodAll_mk0)))), rfl, bel.frame _, fun h => by cases h⟩

theorem over : Rows.lawS2392ABuiltRow.holds Yba.pinned (OpenSpec.ofChange Rows.lawS2392ABuiltSpec) :=
  OpenClaim.holds_of_wide 5 Yba.f5 rfl rfl rfl rfl rfl rfl rfl ⟨rfl, rfl, rfl, rfl, rfl⟩ rfl rfl rfl rfl rfl (by kernel_rfl) Yba.func5 (by kernel_rfl)
    (of_decide_eq_true (by kernel_rfl)) (by unfold Func.isWrapper; first | (rw [if_pos (by decide +kernel)]; kernel_rfl) | (rw [if_neg (by decide +kernel)]; exact ⟨rfl, rfl⟩))
    (fun os started H enc _ => lifted os started H enc)

theorem proved : Rows.LawS2392ABuiltSaid := over

end Go.Proofs.Ybulkawna.lawS2392ABuilt
