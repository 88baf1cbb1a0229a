import Derived.Test.YbulkawnaBRelabel
import Derived.Test.YbulkawnaBUnlink
namespace Go.Proofs.Ybulkawna
open Go.RowKit B
set_option linter.unusedVariables false

/-- A list in order: the ring, the labels climb, the head's is 0, all below 2^63. -/
structure Good (n : Nat) (xs : List Nat) (s : OL) : Prop where
  ring : Ring n xs s.nxt s.prv
  inc : Inc s.lab (n :: xs)
  l0 : s.lab n = 0
  lb : ∀ v ∈ xs, s.lab v < 9223372036854775808

theorem Ring.zr {q : OB} {xs : List Nat} {nxt prv : Nat → Nat} (h : Ring q.n xs nxt prv) (hl : xs.length ≤ q.n) : ZR q nxt prv (fun k => (q.n :: xs).getD k 0) xs.length := by
  have g : ∀ k, k ≤ xs.length → (q.n :: xs ++ [q.n])[k]? = some ((q.n :: xs).getD k 0) := by
    intro k hk
    have hk' : k < (q.n :: xs).length := by simp; omega
    rw [List.getElem?_append_left hk', List.getElem?_eq_getElem hk', getD_get hk']
  have gl : (q.n :: xs ++ [q.n])[xs.length + 1]? = some q.n := by
    rw [List.getElem?_append_right (by simp)]; simp
  have ch : Ch nxt prv (q.n :: xs ++ [q.n]) := h.ch
  refine ⟨rfl, ?_, ?_, ?_, ?_, ?_, hl⟩
  · intro k h1 h2
    obtain ⟨j, rfl⟩ : ∃ j, k = j + 1 := ⟨k - 1, by omega⟩
    have hj : j < xs.length := by omega
    show (q.n :: xs).getD (j + 1) 0 < q.n
    rw [List.getD_cons_succ, getD_get hj]
    exact h.lt _ (List.getElem_mem hj)
  · intro k hk; exact (Ch_get _ ch k _ _ (g k (by omega)) (g (k + 1) (by omega))).1
  · exact (Ch_get _ ch xs.length _ _ (g _ (Nat.le_refl _)) gl).1
  · intro k hk; exact (Ch_get _ ch k _ _ (g k (by omega)) (g (k + 1) (by omega))).2
  · intro a b ha hb e; exact nodup_inj h.nd (by simp; omega) (by simp; omega) e

/-- Laid into the gap. -/
theorem Good.gap {n a f gap high : Nat} {p qq run P Q : List Nat} {s s' : OL} (h : Good n (p ++ qq) s) (hP : n :: p = P ++ [a]) (hQ : qq ++ [n] = f :: Q)
    (hr : run.Nodup) (hl : ∀ v ∈ run, v < n) (hd : ∀ v ∈ run, v ∉ p ∧ v ∉ qq) (hh : high = if f = n then 9223372036854775808 else s.lab f)
    (hg : 1 ≤ gap) (hs : s.lab a + (run.length + 1) * gap ≤ high)
    (hin : ∀ i v, run[i]? = some v → s'.lab v = s.lab a + (i + 1) * gap) (hout : ∀ x, x ∉ run → s'.lab x = s.lab x)
    (hc : Ch s'.nxt s'.prv (a :: run ++ [f])) (hn : ∀ x, x ∉ a :: run → s'.nxt x = s.nxt x) (hp : ∀ x, x ∉ run ++ [f] → s'.prv x = s.prv x) : Good n (p ++ run ++ qq) s' := by
  have nn : n ∉ run := fun e => Nat.lt_irrefl _ (hl n e)
  have hfq : ∀ g G, qq = g :: G → high ≤ s.lab g := by
    intro g G e
    rw [e] at hQ
    simp at hQ
    obtain ⟨rfl, _⟩ := hQ
    have : g < n := h.ring.lt g (by rw [e]; simp)
    rw [hh, if_neg (by omega)]
    exact Nat.le_refl _
  have hi := Inc_gap h.inc hP hg hs hfq hin hout (fun v hv => ⟨fun e => nn (e ▸ hv), hd v hv⟩)
  have hhb : high ≤ 9223372036854775808 := by
    rw [hh]; split
    · exact Nat.le_refl _
    · rename_i hf
      have : f ∈ qq ++ [n] := by rw [hQ]; simp
      simp at this
      rcases this with r | r
      · exact Nat.le_of_lt (h.lb f (by simp [r]))
      · exact absurd r hf
  refine ⟨h.ring.ins hP hQ hr hl hd hc hn hp, hi.1, by rw [hout n nn]; exact h.l0, ?_⟩
  intro v hv
  simp at hv
  by_cases hvr : v ∈ run
  · have := (hi.2 v hvr).2; omega
  · rw [hout v hvr]; exact h.lb v (by simp; rcases hv with r | r | r; exact .inl r; exact absurd r hvr; exact .inr r)

/-- Laid anew by the relabelling. -/
theorem Good.spread {n : Nat} {xs : List Nat} {s s' : OL} {i j p r0 base sp K : Nat} (hr : Ring n xs s.nxt s.prv) (l0 : s.lab n = 0) (hip : i ≤ p) (hpr : p < r0) (hrj : r0 ≤ j) (hjm : j ≤ xs.length)
    (hpre : ∀ a b, a < b → b ≤ p → s.lab ((n :: xs).getD a 0) < s.lab ((n :: xs).getD b 0)) (hsuf : ∀ a b, r0 < a → a < b → b ≤ xs.length → s.lab ((n :: xs).getD a 0) < s.lab ((n :: xs).getD b 0))
    (hpl : ∀ a, a ≤ p → s.lab ((n :: xs).getD a 0) < 9223372036854775808) (hsl : ∀ a, r0 < a → a ≤ xs.length → s.lab ((n :: xs).getD a 0) < 9223372036854775808)
    (hlo : i = 0 ∨ s.lab ((n :: xs).getD (i - 1) 0) < base) (hhi : j = xs.length ∨ base + K ≤ s.lab ((n :: xs).getD (j + 1) 0)) (hsp : 1 ≤ sp) (hK : (j - i + 1) * sp ≤ K)
    (hb : base + K ≤ 9223372036854775808) (h0 : i = 0 → base = 0) (en : s'.nxt = s.nxt) (ep : s'.prv = s.prv)
    (hin : ∀ t, t ≤ j - i → s'.lab ((n :: xs).getD (i + t) 0) = base + t * sp) (hout : ∀ x, (∀ t, t ≤ j - i → x ≠ (n :: xs).getD (i + t) 0) → s'.lab x = s.lab x) : Good n xs s' := by
  have hinc : Inc s'.lab (n :: xs) := by
    refine Inc_spread (lab := s.lab) hr.nd hip (Nat.le_of_lt hpr) hrj (by simp; omega) hpre (fun a b h1 h2 h3 => hsuf a b h1 h2 (by simp at h3; omega)) hlo (by simpa using hhi) hsp hK hin hout
  have inj : ∀ a b, a ≤ xs.length → b ≤ xs.length → (n :: xs).getD a 0 = (n :: xs).getD b 0 → a = b := fun a b ha hb e => nodup_inj hr.nd (by simp; omega) (by simp; omega) e
  have lbk : ∀ k, k ≤ xs.length → s'.lab ((n :: xs).getD k 0) < 9223372036854775808 := by
    intro k hk
    by_cases h1 : i ≤ k ∧ k ≤ j
    · have h2 := hin (k - i) (by omega)
      rw [show i + (k - i) = k from by omega] at h2
      rw [h2]
      have h3 : (k - i) * sp + sp ≤ K := by
        have : (k - i + 1) * sp ≤ (j - i + 1) * sp := Nat.mul_le_mul_right sp (by omega)
        rw [Nat.add_mul, Nat.one_mul] at this
        omega
      omega
    · rw [hout _ (fun t ht e => by have := inj _ _ hk (by omega) e; omega)]
      by_cases h2 : k < i
      · exact hpl k (by omega)
      · exact hsl k (by omega) hk
  refine ⟨by rw [en, ep]; exact hr, hinc, ?_, ?_⟩
  · by_cases e : i = 0
    · have := hin 0 (by omega)
      rw [e, h0 e] at this
      simpa using this
    · have : s'.lab ((n :: xs).getD 0 0) = s.lab ((n :: xs).getD 0 0) := hout _ (fun t ht e' => by have := inj _ _ (by omega) (by omega) e'; omega)
      have h' : s'.lab n = s.lab n := this
      rw [h', l0]
  · intro v hv
    obtain ⟨k, hk, e⟩ := List.mem_iff_getElem.1 hv
    have := lbk (k + 1) (by omega)
    rw [List.getD_cons_succ, getD_get hk, e] at this
    exact this

end Go.Proofs.Ybulkawna
