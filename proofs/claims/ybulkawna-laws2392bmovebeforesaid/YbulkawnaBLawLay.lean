import Derived.Test.YbulkawnaBWalk
import Derived.Test.YbulkawnaBNew
import Derived.Test.YbulkawnaBAfter
namespace Go.Proofs.Ybulkawna
open Go.RowKit B
set_option linter.unusedVariables false

/-- A slice of whole numbers that came in. -/
def BCame (S : Nat) (ao : Option Addr) (len : Nat) (c : Nat → Value) (w : World) : Prop :=
  ∀ j, j < len → ∃ b off, ao = some ⟨b, off, none⟩ ∧ b < S ∧ w.cell? ⟨b, off + j, none⟩ = some (c j)
/-- A slice of steps that came in: three cells each. -/
def BCame3 (S : Nat) (ao : Option Addr) (len : Nat) (c0 c1 c2 : Nat → Value) (w : World) : Prop :=
  ∀ j, j < len → ∃ b off, ao = some ⟨b, off, none⟩ ∧ b < S ∧ w.cell? ⟨b, off + j * 3, none⟩ = some (c0 j) ∧ w.cell? ⟨b, off + j * 3 + 1, none⟩ = some (c1 j) ∧ w.cell? ⟨b, off + j * 3 + 2, none⟩ = some (c2 j)
theorem BCame.below {S : Nat} {ao : Option Addr} {len : Nat} {c : Nat → Value} {w w' : World} (h : BCame S ao len c w) (hb : Below S w w') : BCame S ao len c w' := by
  intro j hj
  obtain ⟨b, off, e, hlt, hc⟩ := h j hj
  exact ⟨b, off, e, hlt, (hb.cell (p := ⟨b, off + j, none⟩) hlt).trans hc⟩
theorem BCame3.below {S : Nat} {ao : Option Addr} {len : Nat} {c0 c1 c2 : Nat → Value} {w w' : World} (h : BCame3 S ao len c0 c1 c2 w) (hb : Below S w w') : BCame3 S ao len c0 c1 c2 w' := by
  intro j hj
  obtain ⟨b, off, e, hlt, h0, h1, h2⟩ := h j hj
  exact ⟨b, off, e, hlt, (hb.cell (p := ⟨b, off + j * 3, none⟩) hlt).trans h0, (hb.cell (p := ⟨b, off + j * 3 + 1, none⟩) hlt).trans h1, (hb.cell (p := ⟨b, off + j * 3 + 2, none⟩) hlt).trans h2⟩

theorem K3.below' {q : OB} {a w w' : World} {N : Nat} (h : K3 q w w') (k : Below N a w) (h1 : N ≤ q.bl) (h2 : N ≤ q.bn) (h3 : N ≤ q.bp) (hN : N ≤ w.heap.size) : Below N a w' :=
  k.trans (h.below hN h1 h2 h3)
theorem K3.buf {q : OB} {w w' : World} {b cap : Nat} {xs : List Nat} (k : K3 q w w') (h : Buf w b cap xs) (h1 : b ≠ q.bl) (h2 : b ≠ q.bn) (h3 : b ≠ q.bp) : Buf w' b cap xs := h.same (k.block b h.lt h1 h2 h3)
theorem Buf.below {w w' : World} {b cap : Nat} {xs : List Nat} (h : Buf w b cap xs) (k : Below w.heap.size w w') : Buf w' b cap xs := h.same (k.block b h.lt)

theorem len_le : ∀ (n : Nat) (l : List Nat), l.Nodup → (∀ v ∈ l, v < n) → l.length ≤ n
  | 0, l, _, h => by
    cases l with
    | nil => exact Nat.le_refl _
    | cons x l => exact absurd (h x (by simp)) (Nat.not_lt_zero _)
  | n + 1, l, nd, h => by
    by_cases hn : n ∈ l
    · obtain ⟨A, B, rfl⟩ := List.append_of_mem hn
      rw [List.nodup_append, List.nodup_cons] at nd
      obtain ⟨n1, ⟨n2, n3⟩, n4⟩ := nd
      have := len_le n (A ++ B) (by rw [List.nodup_append]; exact ⟨n1, n3, fun x hx y hy => n4 x hx y (by simp [hy])⟩) (fun v hv => by
        have h1 := h v (by simp at hv ⊢; rcases hv with r | r; exact .inl r; exact .inr (.inr r))
        have h2 : v ≠ n := by
          intro e
          subst e
          simp at hv
          rcases hv with r | r
          · exact n4 v r v (by simp) rfl
          · exact n2 r
        omega)
      simp at this ⊢
      omega
    · have := len_le n l nd (fun v hv => by
        have h1 := h v hv
        have h2 : v ≠ n := fun e => hn (e ▸ hv)
        omega)
      omega

/-- What one number of the old order leaves in the expected one. -/
def put1 (rs : List Nat) (t v : Nat) : List Nat := if v ∈ rs then [] else if v = t then rs ++ [v] else [v]
theorem put1_less (rs : List Nat) (t : Nat) : ∀ l : List Nat, t ∉ l → l.flatMap (put1 rs t) = less l rs
  | [], _ => rfl
  | v :: l, h => by
    have h1 : v ≠ t := fun e => h (by simp [e])
    have h2 : t ∉ l := fun e => h (by simp [e])
    rw [List.flatMap_cons, put1_less rs t l h2]
    unfold put1
    by_cases hv : v ∈ rs
    · rw [if_pos hv]
      unfold less
      rw [List.filter_cons, if_neg (by simpa using hv)]
      rfl
    · rw [if_neg hv, if_neg h1, less_cons v l rs hv]
      rfl
theorem put1_before (rs p0 q0 : List Nat) (t : Nat) (hp : t ∉ p0) (hq : t ∉ q0) (ht : t ∉ rs) : (p0 ++ t :: q0).flatMap (put1 rs t) = before p0 q0 rs t := by
  rw [List.flatMap_append, List.flatMap_cons, put1_less rs t p0 hp, put1_less rs t q0 hq]
  unfold put1 before
  rw [if_neg ht, if_pos rfl]
  simp
theorem put1_prefix (rs : List Nat) (t : Nat) (xs : List Nat) (k v : Nat) (h : xs[k]? = some v) : (xs.take (k + 1)).flatMap (put1 rs t) = (xs.take k).flatMap (put1 rs t) ++ put1 rs t v := by
  rw [List.take_add_one, h]
  simp
theorem put1_len (rs : List Nat) (t : Nat) (xs : List Nat) (k : Nat) : ((xs.take k).flatMap (put1 rs t)).length ≤ (xs.flatMap (put1 rs t)).length := by
  have h := congrArg (fun l => (l.flatMap (put1 rs t)).length) (List.take_append_drop k xs)
  simp only [List.flatMap_append, List.length_append] at h
  omega

theorem bm_22 (n : Nat) (hn : n ≤ 201) (w : World) : (Instr.makeSlice 22 (.int .i64 (n : Int)) (.int .i64 (n : Int))).run Yba.prog w = .ok (.slice (some ⟨w.heap.size, 0, none⟩) n n) (w.alloc (.cells (madeCells #[.bool false] n) 4)) := by
  have := make_row Yba.underlying22 k_info4 (by omega) (n : Int) (by omega) (by omega) w
  rwa [Int.toNat_natCast] at this

theorem om_new {w : World} {n bl bn bp : Nat} {s : OL} (ne : bl ≠ bn ∧ bl ≠ bp ∧ bn ≠ bp) (hn : 2 ≤ n ∧ n ≤ 201) (rl : Row w bl 94 (n + 1) (u64v s.lab)) (rn : Row w bn 3 (n + 1) (i64v s.nxt)) (rp : Row w bp 3 (n + 1) (i64v s.prv)) :
    OBok ⟨w.heap.size, bl, bn, bp, n⟩ ∧ OM ⟨w.heap.size, bl, bn, bp, n⟩ s (w.alloc (.cells #[.slice (some ⟨bl, 0, none⟩) (n + 1) (n + 1), .slice (some ⟨bn, 0, none⟩) (n + 1) (n + 1), .slice (some ⟨bp, 0, none⟩) (n + 1) (n + 1), .slice none 0 0, .slice (some ⟨bl, 0, none⟩) (n + 1) (n + 1)] 75)) := by
  have l1 := rl.lt
  have l2 := rn.lt
  have l3 := rp.lt
  exact ⟨⟨⟨by simp; omega, by simp; omega, by simp; omega, ne.1, ne.2.1, ne.2.2⟩, hn⟩, ⟨heap_alloc_new w _, rl.alloc _, rn.alloc _, rp.alloc _⟩⟩

theorem before_len {n t : Nat} {p0 q0 rs : List Nat} {s : OL} (F : Fine n (p0 ++ t :: q0) s) (hr : rs.Nodup) (hl : ∀ v ∈ rs, v < n) (ht : t ∉ rs) : (before p0 q0 rs t).length = n := by
  have nd0 : (p0 ++ t :: q0).Nodup := (List.nodup_cons.1 F.good.ring.nd).2
  refine ring_len (nodup_before nd0 hr ht) ?_ (fun v hv => mem_before (F.all v hv))
  intro v hv
  unfold before at hv
  simp at hv
  rcases hv with r | r | r | r
  · exact F.good.ring.lt v (by have := (less_sub p0 rs).subset r; simp [this])
  · exact hl v r
  · exact F.good.ring.lt v (by simp [r])
  · exact F.good.ring.lt v (by have := (less_sub q0 rs).subset r; simp [this])
theorem before_put {n t : Nat} {p0 q0 rs : List Nat} {s : OL} (F : Fine n (p0 ++ t :: q0) s) (ht : t ∉ rs) : (p0 ++ t :: q0).flatMap (put1 rs t) = before p0 q0 rs t := by
  have nd0 : (p0 ++ t :: q0).Nodup := (List.nodup_cons.1 F.good.ring.nd).2
  rw [List.nodup_append, List.nodup_cons] at nd0
  exact put1_before rs p0 q0 t (fun e => nd0.2.2 t e t (by simp) rfl) nd0.2.1.1 ht

end Go.Proofs.Ybulkawna
