namespace Go.Proofs.Ybulkawna.B
set_option linter.unusedVariables false

/-- f, but v at place i. -/
def up {α : Type} (f : Nat → α) (i : Nat) (v : α) : Nat → α := fun j => if j = i then v else f j
theorem up_same {α : Type} (f : Nat → α) (i : Nat) (v : α) : up f i v i = v := by simp [up]
theorem up_other {α : Type} (f : Nat → α) (i : Nat) (v : α) (j : Nat) (h : j ≠ i) : up f i v j = f j := by simp [up, h]

/-- The links along a list: next and prev mirror each other. -/
def Ch (nxt prv : Nat → Nat) : List Nat → Prop
  | a :: b :: l => nxt a = b ∧ prv b = a ∧ Ch nxt prv (b :: l)
  | _ => True

theorem Ch_cons {nxt prv : Nat → Nat} {a b : Nat} {l : List Nat} : Ch nxt prv (a :: b :: l) ↔ nxt a = b ∧ prv b = a ∧ Ch nxt prv (b :: l) := Iff.rfl

theorem Ch_append {nxt prv : Nat → Nat} (a : Nat) (l2 : List Nat) : ∀ l1 : List Nat, Ch nxt prv (l1 ++ a :: l2) ↔ Ch nxt prv (l1 ++ [a]) ∧ Ch nxt prv (a :: l2)
  | [] => by simp [Ch]
  | [x] => by simp [Ch, and_assoc]
  | x :: y :: l => by
    have ih := Ch_append (nxt := nxt) (prv := prv) a l2 (y :: l)
    simp only [List.cons_append, Ch_cons] at ih ⊢
    rw [ih]
    constructor
    · rintro ⟨h1, h2, h3, h4⟩; exact ⟨⟨h1, h2, h3⟩, h4⟩
    · rintro ⟨⟨h1, h2, h3⟩, h4⟩; exact ⟨h1, h2, h3, h4⟩

theorem Ch_congr {nxt prv nxt' prv' : Nat → Nat} : ∀ {l : List Nat}, (∀ x ∈ l.dropLast, nxt' x = nxt x) → (∀ x ∈ l.tail, prv' x = prv x) → Ch nxt prv l → Ch nxt' prv' l
  | [], _, _, _ => trivial
  | [_], _, _, _ => trivial
  | a :: b :: l, h1, h2, h => by
    refine ⟨?_, ?_, ?_⟩
    · rw [h1 a (by simp)]; exact h.1
    · rw [h2 b (by simp)]; exact h.2.1
    · refine Ch_congr (fun x hx => h1 x (by simp [List.dropLast] at hx ⊢; exact Or.inr hx)) (fun x hx => h2 x ?_) h.2.2
      simp at hx ⊢
      exact Or.inr hx

/-- The state of the three rows. -/
structure OL where
  lab : Nat → Nat
  nxt : Nat → Nat
  prv : Nat → Nat

/-- The ring through the head n and xs. -/
structure Ring (n : Nat) (xs : List Nat) (nxt prv : Nat → Nat) : Prop where
  ch : Ch nxt prv (n :: (xs ++ [n]))
  nd : (n :: xs).Nodup
  lt : ∀ v ∈ xs, v < n

/-- Around an element. -/
theorem Ring.around {n v : Nat} {p q : List Nat} {nxt prv : Nat → Nat} (h : Ring n (p ++ v :: q) nxt prv) :
    ∃ P pv nv Q, n :: p = P ++ [pv] ∧ q ++ [n] = nv :: Q ∧ prv v = pv ∧ nxt v = nv ∧ Ch nxt prv (P ++ [pv]) ∧ Ch nxt prv (nv :: Q) := by
  obtain ⟨P, pv, hP⟩ : ∃ P pv, n :: p = P ++ [pv] := ⟨(n :: p).dropLast, (n :: p).getLast (by simp), (List.dropLast_concat_getLast (by simp)).symm⟩
  obtain ⟨nv, Q, hQ⟩ : ∃ nv Q, q ++ [n] = nv :: Q := by
    cases q with
    | nil => exact ⟨n, [], rfl⟩
    | cons a l => exact ⟨a, l ++ [n], rfl⟩
  have hc := h.ch
  have e : n :: ((p ++ v :: q) ++ [n]) = P ++ pv :: v :: nv :: Q := by
    have : n :: ((p ++ v :: q) ++ [n]) = (n :: p) ++ v :: (q ++ [n]) := by simp
    rw [this, hP, hQ]; simp
  rw [e, Ch_append] at hc
  obtain ⟨c1, c2⟩ := hc
  rw [Ch_cons, Ch_cons] at c2
  exact ⟨P, pv, nv, Q, hP, hQ, c2.2.1, c2.2.2.1, c1, c2.2.2.2.2⟩

theorem nodup_split {n v : Nat} {p q : List Nat} (h : (n :: (p ++ v :: q)).Nodup) : n ∉ p ∧ n ≠ v ∧ n ∉ q ∧ v ∉ p ∧ v ∉ q ∧ p.Nodup ∧ q.Nodup ∧ (∀ x ∈ p, x ∉ q) := by
  rw [List.nodup_cons, List.nodup_append] at h
  obtain ⟨h1, h2, h3, h4⟩ := h
  rw [List.nodup_cons] at h3
  simp at h1
  refine ⟨h1.1, h1.2.1, h1.2.2, fun hv => ?_, h3.1, h2, h3.2, fun x hx hq => ?_⟩
  · exact h4 v hv v (by simp) rfl
  · exact h4 x hx x (by simp [hq]) rfl

/-- Taking one element out. -/
theorem Ring.out {n v : Nat} {p q : List Nat} {nxt prv : Nat → Nat} (h : Ring n (p ++ v :: q) nxt prv) :
    Ring n (p ++ q) (up nxt (prv v) (nxt v)) (up prv (nxt v) (prv v)) := by
  obtain ⟨P, pv, nv, Q, hP, hQ, e1, e2, c1, c2⟩ := h.around
  obtain ⟨a1, a2, a3, a4, a5, a6, a7, a8⟩ := nodup_split h.nd
  rw [e1, e2]
  have ndP : (P ++ [pv]).Nodup := by rw [← hP, List.nodup_cons]; exact ⟨a1, a6⟩
  have pvP : pv ∉ P := by
    rw [List.nodup_append] at ndP
    intro hx; exact ndP.2.2 pv hx pv (by simp) rfl
  have pvm : pv = n ∨ pv ∈ p := by
    have : pv ∈ n :: p := by rw [hP]; simp
    simpa using this
  have nvm : nv = n ∨ nv ∈ q := by
    have : nv ∈ q ++ [n] := by rw [hQ]; simp
    simp at this; exact this.symm
  refine ⟨?_, ?_, fun x hx => h.lt x (by simp at hx ⊢; rcases hx with hx | hx <;> simp [hx])⟩
  · have e : n :: ((p ++ q) ++ [n]) = P ++ pv :: nv :: Q := by
      have : n :: ((p ++ q) ++ [n]) = (n :: p) ++ (q ++ [n]) := by simp
      rw [this, hP, hQ]; simp
    rw [e, Ch_append]
    refine ⟨Ch_congr (fun x hx => ?_) (fun x hx => ?_) c1, ?_⟩
    · rw [List.dropLast_concat] at hx
      exact up_other _ _ _ _ (fun q => pvP (q ▸ hx))
    · have hx' : x ∈ p := by
        have : (P ++ [pv]).tail = p := by rw [← hP]; rfl
        rwa [this] at hx
      refine up_other _ _ _ _ (fun q' => ?_)
      rcases nvm with r | r
      · exact a1 (by rw [← r, ← q']; exact hx')
      · exact a8 x hx' (q' ▸ r)
    · rw [Ch_cons]
      refine ⟨up_same _ _ _, up_same _ _ _, Ch_congr (fun x hx => ?_) (fun x hx => ?_) c2⟩
      · have hx' : x ∈ q := by
          rw [← hQ, List.dropLast_concat] at hx; exact hx
        refine up_other _ _ _ _ (fun q' => ?_)
        rcases pvm with r | r
        · exact a3 (by rw [← r, ← q']; exact hx')
        · exact a8 pv r (q' ▸ hx')
      · simp only [List.tail_cons] at hx
        refine up_other _ _ _ _ (fun q' => ?_)
        subst q'
        cases q with
        | nil => simp at hQ; rw [hQ.2] at hx; cases hx
        | cons a l =>
          simp at hQ
          obtain ⟨rfl, rfl⟩ := hQ
          rw [List.nodup_cons] at a7
          simp at hx
          rcases hx with hx | hx
          · exact a7.1 hx
          · exact a3 (by rw [hx]; simp)
  · rw [List.nodup_cons, List.nodup_append]
    exact ⟨by simp [a1, a3], a6, a7, fun x hx y hy e => a8 x hx (e ▸ hy)⟩

/-- One more link at the end. -/
theorem Ch_snoc {nxt prv : Nat → Nat} {L : List Nat} {a v : Nat} (h : Ch nxt prv (L ++ [a])) (h1 : a ∉ L) (h2 : v ∉ (L ++ [a]).tail) : Ch (up nxt a v) (up prv v a) (L ++ [a] ++ [v]) := by
  rw [List.append_assoc, List.singleton_append, Ch_append]
  refine ⟨Ch_congr (fun x hx => ?_) (fun x hx => ?_) h, up_same _ _ _, up_same _ _ _, trivial⟩
  · rw [List.dropLast_concat] at hx
    exact up_other _ _ _ _ (fun q => h1 (q ▸ hx))
  · exact up_other _ _ _ _ (fun q => h2 (q ▸ hx))

/-- Putting run in, between p and q. -/
theorem Ring.ins {n a f : Nat} {p q run P Q : List Nat} {nxt prv nxt' prv' : Nat → Nat} (h : Ring n (p ++ q) nxt prv) (hP : n :: p = P ++ [a]) (hQ : q ++ [n] = f :: Q)
    (hr : run.Nodup) (hl : ∀ v ∈ run, v < n) (hd : ∀ v ∈ run, v ∉ p ∧ v ∉ q)
    (hc : Ch nxt' prv' (a :: run ++ [f])) (hn : ∀ x, x ∉ a :: run → nxt' x = nxt x) (hp : ∀ x, x ∉ run ++ [f] → prv' x = prv x) : Ring n (p ++ run ++ q) nxt' prv' := by
  have nd := h.nd
  rw [List.nodup_cons, List.nodup_append] at nd
  obtain ⟨n1, n2, n3, n4⟩ := nd
  simp at n1
  have ndP : (P ++ [a]).Nodup := by rw [← hP, List.nodup_cons]; exact ⟨n1.1, n2⟩
  have aP : a ∉ P := by
    rw [List.nodup_append] at ndP
    intro hx; exact ndP.2.2 a hx a (by simp) rfl
  have am : a = n ∨ a ∈ p := by
    have : a ∈ n :: p := by rw [hP]; simp
    simpa using this
  have fm : f = n ∨ f ∈ q := by
    have : f ∈ q ++ [n] := by rw [hQ]; simp
    simp at this; exact this.symm
  have rn : ∀ x ∈ run, x ≠ n := fun x hx => by have := hl x hx; omega
  have Pm : ∀ x ∈ P, x = n ∨ x ∈ p := fun x hx => by
    have : x ∈ n :: p := by rw [hP]; simp [hx]
    simpa using this
  have hch := h.ch
  have e0 : n :: ((p ++ q) ++ [n]) = P ++ a :: f :: Q := by
    have : n :: ((p ++ q) ++ [n]) = (n :: p) ++ (q ++ [n]) := by simp
    rw [this, hP, hQ]; simp
  rw [e0, Ch_append, Ch_cons] at hch
  obtain ⟨c1, _, _, c2⟩ := hch
  refine ⟨?_, ?_, fun x hx => ?_⟩
  · have e : n :: ((p ++ run ++ q) ++ [n]) = P ++ a :: (run ++ f :: Q) := by
      have : n :: ((p ++ run ++ q) ++ [n]) = (n :: p) ++ run ++ (q ++ [n]) := by simp
      rw [this, hP, hQ]; simp
    rw [e, Ch_append]
    refine ⟨Ch_congr (fun x hx => ?_) (fun x hx => ?_) c1, ?_⟩
    · rw [List.dropLast_concat] at hx
      refine hn x ?_
      simp only [List.mem_cons, not_or]
      refine ⟨fun q => aP (q ▸ hx), fun hxr => ?_⟩
      rcases Pm x hx with r | r
      · exact rn x hxr r
      · exact (hd x hxr).1 r
    · have hx' : x ∈ p := by
        have : (P ++ [a]).tail = p := by rw [← hP]; rfl
        rwa [this] at hx
      refine hp x ?_
      simp only [List.mem_append, List.mem_singleton, not_or]
      refine ⟨fun hxr => (hd x hxr).1 hx', fun q => ?_⟩
      rcases fm with r | r
      · exact n1.1 (by rw [← r, ← q]; exact hx')
      · exact n4 x hx' f r q
    · rw [← List.cons_append, Ch_append]
      refine ⟨hc, Ch_congr (fun x hx => ?_) (fun x hx => ?_) c2⟩
      · have hx' : x ∈ q := by rw [← hQ, List.dropLast_concat] at hx; exact hx
        refine hn x ?_
        simp only [List.mem_cons, not_or]
        refine ⟨fun q' => ?_, fun hxr => (hd x hxr).2 hx'⟩
        rcases am with r | r
        · exact n1.2 (by rw [← r, ← q']; exact hx')
        · exact n4 a r x hx' q'.symm
      · simp only [List.tail_cons] at hx
        have hx' : x = n ∨ x ∈ q := by
          have : x ∈ q ++ [n] := by rw [hQ]; simp [hx]
          simp at this; exact this.symm
        refine hp x ?_
        simp only [List.mem_append, List.mem_singleton, not_or]
        refine ⟨fun hxr => ?_, fun q' => ?_⟩
        · rcases hx' with r | r
          · exact rn x hxr r
          · exact (hd x hxr).2 r
        · subst q'
          cases q with
          | nil => simp at hQ; rw [hQ.2] at hx; cases hx
          | cons b l =>
            simp at hQ
            obtain ⟨rfl, rfl⟩ := hQ
            rw [List.nodup_cons] at n3
            simp at hx
            rcases hx with hx | hx
            · exact n3.1 hx
            · exact n1.2 (by rw [hx]; simp)
  · rw [List.nodup_cons, List.nodup_append, List.nodup_append]
    refine ⟨?_, ⟨n2, hr, fun x hx y hy e => (hd y hy).1 (e ▸ hx)⟩, n3, fun x hx y hy e => ?_⟩
    · simp only [List.mem_append, not_or]
      exact ⟨⟨n1.1, fun hx => rn n hx rfl⟩, n1.2⟩
    · simp only [List.mem_append] at hx
      rcases hx with hx | hx
      · exact n4 x hx y hy e
      · exact (hd x hx).2 (e ▸ hy)
  · simp only [List.mem_append] at hx
    rcases hx with (hx | hx) | hx
    · exact h.lt x (by simp [hx])
    · exact hl x hx
    · exact h.lt x (by simp [hx])

/-- b, which comes directly after a, put directly before it. -/
theorem Ring.trade {n a b : Nat} {p q : List Nat} {nxt prv : Nat → Nat} (h : Ring n (p ++ a :: b :: q) nxt prv) :
    Ring n (p ++ b :: a :: q) (up (up (up nxt (prv a) b) b a) a (nxt b)) (up (up (up prv b (prv a)) a b) (nxt b) a) := by
  have hab : nxt a = b := by
    obtain ⟨P, pv, nv, Q, hP, hQ, e1, e2, c1, c2⟩ := h.around
    simp at hQ; rw [e2]; exact hQ.1.symm
  have h2 : Ring n ((p ++ [a]) ++ b :: q) nxt prv := by simpa using h
  obtain ⟨_, _, fv, Q, _, hQ, _, eb, _, _⟩ := h2.around
  have o := h.out
  rw [hab] at o
  have nd := nodup_split h.nd
  have nd2 := nodup_split h2.nd
  obtain ⟨a1, a2, a3, a4, a5, a6, a7, a8⟩ := nd
  obtain ⟨b1, b2, b3, b4, b5, b6, b7, b8⟩ := nd2
  have hba : b ≠ a := fun e => b4 (by simp [e])
  have o' : Ring n ((p ++ [b]) ++ q) (up nxt (prv a) b) (up prv b (prv a)) := by simpa using o
  have res := Ring.ins (a := b) (f := fv) (run := [a]) (P := n :: p) (Q := Q) (nxt' := up (up (up nxt (prv a) b) b a) a (nxt b)) (prv' := up (up (up prv b (prv a)) a b) (nxt b) a) o' (by simp) hQ (by simp)
    (fun v hv => by simp at hv; subst hv; exact h.lt v (by simp)) (fun v hv => by simp at hv; subst hv; simp; exact ⟨⟨a4, fun e => hba e.symm⟩, fun hq => a5 (by simp [hq])⟩) ?_ ?_ ?_
  · simpa using res
  · rw [eb]
    have fa : fv ≠ a := by
      intro e
      have : fv ∈ q ++ [n] := by rw [hQ]; simp
      simp at this
      rcases this with r | r
      · exact a5 (by simp [← e, r])
      · exact a2 (by rw [← r, e])
    show Ch _ _ [b, a, fv]
    refine ⟨?_, ?_, ?_, ?_, trivial⟩
    · rw [up_other _ _ _ _ hba, up_same]
    · rw [up_other _ _ _ _ (fun e => fa e.symm), up_same]
    · rw [up_same]
    · rw [up_same]
  · intro x hx
    simp at hx
    rw [up_other _ _ _ _ hx.2, up_other _ _ _ _ hx.1]
  · intro x hx
    simp at hx
    rw [eb, up_other _ _ _ _ hx.2, up_other _ _ _ _ hx.1]

/-- Along the ring, by places: z 0 is the head. -/
theorem Ch_get {nxt prv : Nat → Nat} : ∀ (l : List Nat), Ch nxt prv l → ∀ k a b, l[k]? = some a → l[k + 1]? = some b → nxt a = b ∧ prv b = a
  | [], _, _, _, _, h, _ => by simp at h
  | [x], _, k, _, _, _, h => by simp at h
  | x :: y :: l, hc, 0, a, b, h1, h2 => by simp at h1 h2; subst h1; subst h2; exact ⟨hc.1, hc.2.1⟩
  | x :: y :: l, hc, k + 1, a, b, h1, h2 => Ch_get (y :: l) hc.2.2 k a b (by simpa using h1) (by simpa using h2)

end Go.Proofs.Ybulkawna.B
