import Derived.Test.YbulkawnaBPlain
namespace Go.Proofs.Ybulkawna.B
set_option linter.unusedVariables false

/-- The labels increase along l. -/
def Inc (lab : Nat → Nat) (l : List Nat) : Prop := l.Pairwise (fun a b => lab a < lab b)

theorem getD_get {l : List Nat} {k : Nat} (h : k < l.length) : l.getD k 0 = l[k] := by
  rw [List.getD_eq_getElem?_getD, List.getElem?_eq_getElem h]; rfl

theorem Inc_iff {lab : Nat → Nat} {l : List Nat} : Inc lab l ↔ ∀ a b, a < b → b < l.length → lab (l.getD a 0) < lab (l.getD b 0) := by
  unfold Inc
  rw [List.pairwise_iff_getElem]
  constructor
  · intro h a b hab hb
    rw [getD_get (by omega), getD_get hb]
    exact h a b (by omega) hb hab
  · intro h a b ha hb hab
    have := h a b hab hb
    rwa [getD_get ha, getD_get hb] at this

theorem nodup_inj {l : List Nat} (nd : l.Nodup) {a b : Nat} (ha : a < l.length) (hb : b < l.length) (h : l.getD a 0 = l.getD b 0) : a = b := by
  rw [getD_get ha, getD_get hb] at h
  have := List.pairwise_iff_getElem.1 nd
  rcases Nat.lt_trichotomy a b with q | q | q
  · exact absurd h (this a b ha hb q)
  · exact q
  · exact absurd h.symm (this b a hb ha q)

theorem Inc.congr {lab lab' : Nat → Nat} {l : List Nat} (h : Inc lab l) (e : ∀ x ∈ l, lab' x = lab x) : Inc lab' l := by
  unfold Inc at h ⊢
  refine h.imp_of_mem ?_
  intro a b ha hb hab
  rw [e a ha, e b hb]; exact hab

/-- New labels in a gap. -/
theorem Inc_gap {lab lab' : Nat → Nat} {n a gap high : Nat} {p q run P : List Nat} (h : Inc lab (n :: (p ++ q))) (hP : n :: p = P ++ [a]) (hg : 1 ≤ gap) (hh : lab a + (run.length + 1) * gap ≤ high)
    (hq : ∀ f Q, q = f :: Q → high ≤ lab f)
    (hin : ∀ i v, run[i]? = some v → lab' v = lab a + (i + 1) * gap) (hout : ∀ x, x ∉ run → lab' x = lab x) (hd : ∀ v ∈ run, v ≠ n ∧ v ∉ p ∧ v ∉ q) :
    Inc lab' (n :: (p ++ run ++ q)) ∧ (∀ v ∈ run, lab a < lab' v ∧ lab' v < high) := by
  have hrun : ∀ v ∈ run, lab a < lab' v ∧ lab' v < high := by
    intro v hv
    obtain ⟨i, hi, e⟩ := List.mem_iff_getElem.1 hv
    have := hin i v (by rw [List.getElem?_eq_getElem hi, e])
    have h1 : gap ≤ (i + 1) * gap := Nat.le_mul_of_pos_left _ (by omega)
    have h2 : (i + 1) * gap + gap ≤ (run.length + 1) * gap := by
      have : (i + 1) * gap + gap = (i + 1 + 1) * gap := by rw [Nat.add_mul (i + 1) 1 gap]; omega
      rw [this]; exact Nat.mul_le_mul_right _ (by omega)
    omega
  have e1 : n :: (p ++ q) = (n :: p) ++ q := rfl
  have hpq : Inc lab ((n :: p) ++ q) := h
  unfold Inc at hpq
  rw [List.pairwise_append] at hpq
  obtain ⟨i1, i2, i3⟩ := hpq
  have np : ∀ x ∈ n :: p, x ∉ run := by
    intro x hx hr
    simp at hx
    rcases hx with rfl | hx
    · exact (hd x hr).1 rfl
    · exact (hd x hr).2.1 hx
  have nq : ∀ x ∈ q, x ∉ run := fun x hx hr => (hd x hr).2.2 hx
  have hle : ∀ x ∈ n :: p, lab x ≤ lab a := by
    rw [hP] at i1 ⊢
    rw [List.pairwise_append] at i1
    intro x hx
    simp at hx
    rcases hx with hx | rfl
    · exact Nat.le_of_lt (i1.2.2 x hx a (by simp))
    · exact Nat.le_refl _
  have hge : ∀ y ∈ q, high ≤ lab y := by
    intro y hy
    cases q with
    | nil => cases hy
    | cons f Q =>
      have hf := hq f Q rfl
      simp at hy
      rcases hy with rfl | hy
      · exact hf
      · rw [List.pairwise_cons] at i2
        have := i2.1 y hy
        omega
  refine ⟨?_, hrun⟩
  show Inc lab' (((n :: p) ++ run) ++ q)
  unfold Inc
  rw [List.pairwise_append, List.pairwise_append]
  refine ⟨⟨Inc.congr i1 (fun x hx => hout x (np x hx)), ?_, fun x hx y hy => ?_⟩, Inc.congr i2 (fun x hx => hout x (nq x hx)), fun x hx y hy => ?_⟩
  · rw [List.pairwise_iff_getElem]
    intro i j hi hj hij
    rw [hin i _ (List.getElem?_eq_getElem hi), hin j _ (List.getElem?_eq_getElem hj)]
    have : (i + 1) * gap < (j + 1) * gap := Nat.mul_lt_mul_of_pos_right (by omega) (by omega)
    omega
  · rw [hout x (np x hx)]
    have := hle x hx
    have := (hrun y hy).1
    omega
  · rw [hout y (nq y hy)]
    have hy' := hge y hy
    rw [List.mem_append] at hx
    rcases hx with hx | hx
    · rw [hout x (np x hx)]
      exact i3 x hx y hy
    · have := (hrun x hx).2
      omega

/-- New labels, evenly spread, for the places i to j. -/
theorem Inc_spread {lab lab' : Nat → Nat} {l : List Nat} (nd : l.Nodup) {i j p r0 base sp K : Nat} (hip : i ≤ p) (hpr : p ≤ r0) (hrj : r0 ≤ j) (hjm : j < l.length)
    (hpre : ∀ a b, a < b → b ≤ p → lab (l.getD a 0) < lab (l.getD b 0)) (hsuf : ∀ a b, r0 < a → a < b → b < l.length → lab (l.getD a 0) < lab (l.getD b 0))
    (hlo : i = 0 ∨ lab (l.getD (i - 1) 0) < base) (hhi : j + 1 = l.length ∨ base + K ≤ lab (l.getD (j + 1) 0)) (hsp : 1 ≤ sp) (hK : (j - i + 1) * sp ≤ K)
    (hin : ∀ t, t ≤ j - i → lab' (l.getD (i + t) 0) = base + t * sp) (hout : ∀ x, (∀ t, t ≤ j - i → x ≠ l.getD (i + t) 0) → lab' x = lab x) : Inc lab' l := by
  rw [Inc_iff]
  have inn : ∀ a, i ≤ a → a ≤ j → lab' (l.getD a 0) = base + (a - i) * sp := by
    intro a h1 h2
    have := hin (a - i) (by omega)
    rwa [show i + (a - i) = a from by omega] at this
  have out : ∀ a, a < l.length → (a < i ∨ j < a) → lab' (l.getD a 0) = lab (l.getD a 0) := by
    intro a ha hc
    refine hout _ (fun t ht e => ?_)
    have := nodup_inj nd ha (by omega) e
    omega
  have below : ∀ a, a < i → lab (l.getD a 0) < base := by
    intro a ha
    rcases hlo with h | h
    · omega
    · by_cases e : a = i - 1
      · rw [e]; exact h
      · have := hpre a (i - 1) (by omega) (by omega)
        omega
  have above : ∀ b, j < b → b < l.length → base + K ≤ lab (l.getD b 0) := by
    intro b h1 h2
    rcases hhi with h | h
    · omega
    · by_cases e : b = j + 1
      · rw [e]; exact h
      · have := hsuf (j + 1) b (by omega) (by omega) h2
        omega
  have inK : ∀ a, i ≤ a → a ≤ j → (a - i) * sp < K := by
    intro a h1 h2
    have : (a - i) * sp + sp ≤ (j - i + 1) * sp := by
      have e : (a - i) * sp + sp = (a - i + 1) * sp := by rw [Nat.add_mul (a - i) 1 sp]; omega
      rw [e]; exact Nat.mul_le_mul_right _ (by omega)
    omega
  intro a b hab hb
  by_cases ha : a < i
  · rw [out a (by omega) (Or.inl ha)]
    have h1 := below a ha
    by_cases hbi : b < i
    · rw [out b hb (Or.inl hbi)]
      exact hpre a b hab (by omega)
    · by_cases hbj : b ≤ j
      · rw [inn b (by omega) hbj]; omega
      · rw [out b hb (Or.inr (by omega))]
        have := above b (by omega) hb
        omega
  · by_cases haj : a ≤ j
    · rw [inn a (by omega) haj]
      have h1 := inK a (by omega) haj
      by_cases hbj : b ≤ j
      · rw [inn b (by omega) hbj]
        have : (a - i) * sp < (b - i) * sp := Nat.mul_lt_mul_of_pos_right (by omega) (by omega)
        omega
      · rw [out b hb (Or.inr (by omega))]
        have := above b (by omega) hb
        omega
    · rw [out a (by omega) (Or.inr (by omega)), out b hb (Or.inr (by omega))]
      exact hsuf a b (by omega) hab hb

end Go.Proofs.Ybulkawna.B
