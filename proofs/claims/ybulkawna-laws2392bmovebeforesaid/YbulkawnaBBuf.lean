import Derived.Test.YbulkawnaBFull
import Derived.ArgAppend
namespace Go.Proofs.Ybulkawna
open Go.RowKit B
set_option linter.unusedVariables false

/-- Block b alone may have turned. -/
structure Only (b : Nat) (w w' : World) : Prop where
  os : w'.os = w.os
  tape : w'.tape = w.tape
  output : w'.output = w.output
  size : w'.heap.size = w.heap.size
  block : ∀ k, k ≠ b → w'.heap[k]? = w.heap[k]?

theorem Only.refl (b : Nat) (w : World) : Only b w w := ⟨rfl, rfl, rfl, rfl, fun _ _ => rfl⟩
theorem Only.set {b : Nat} {a w : World} (h : Only b a w) (i : Nat) (v : Value) : Only b a (w.setCell ⟨b, i, none⟩ v) :=
  ⟨h.os, h.tape, h.output, by have := h.size; simp [World.setCell]; omega, fun k hk => by rw [Below.heap_setCell _ _ _ _ (by simpa using hk)]; exact h.block k hk⟩
theorem Only.sets {b : Nat} : ∀ (vs : List Value) (o : Nat) {a w : World}, Only b a w → Only b a (w.setCells b o vs)
  | [], _, _, _, h => h
  | v :: r, o, _, _, h => Only.sets r (o + 1) (h.set o v)
theorem Only.below {b N : Nat} {a w w' : World} (h : Only b w w') (k : Below N a w) (hb : N ≤ b) : Below N a w' :=
  ⟨h.os.trans k.os, h.tape.trans k.tape, h.output.trans k.output, by rw [h.size]; exact k.size, fun i hi => (h.block i (by omega)).trans (k.block i hi)⟩
theorem Only.run {b x : Nat} {w w' : World} {xs : List Nat} (h : Only b w w') (hr : RunAt w x xs) (hx : x ≠ b) : RunAt w' x xs := by
  intro i v hv
  exact (World.cell?_of_block (a := ⟨x, i, none⟩) (h.block x hx)).trans (hr i v hv)
theorem Only.row {b x : Nat} {w w' : World} {t : TypeId} {n : Nat} {f : Nat → Value} (h : Only b w w') (hr : Row w x t n f) (hx : x ≠ b) : Row w' x t n f := hr.same (h.block x hx)
theorem Only.om {b : Nat} {w w' : World} {q : OB} {s : OL} (h : Only b w w') (hm : OM q s w) (h0 : q.b ≠ b) (h1 : q.bl ≠ b) (h2 : q.bn ≠ b) (h3 : q.bp ≠ b) : OM q s w' :=
  ⟨(h.block _ h0).trans hm.hb, h.row hm.rl h1, h.row hm.rn h2, h.row hm.rp h3⟩
theorem OM.same {q : OB} {s : OL} {w w' : World} {N : Nat} (hm : OM q s w) (h : Below N w w') (h0 : q.b < N) (h1 : q.bl < N) (h2 : q.bn < N) (h3 : q.bp < N) : OM q s w' :=
  ⟨(h.block _ h0).trans hm.hb, hm.rl.same (h.block _ h1), hm.rn.same (h.block _ h2), hm.rp.same (h.block _ h3)⟩
theorem OM.lts {q : OB} {s : OL} {w : World} (h : OM q s w) : q.b < w.heap.size ∧ q.bl < w.heap.size ∧ q.bn < w.heap.size ∧ q.bp < w.heap.size :=
  ⟨lt_of_block h.hb, h.rl.lt, h.rn.lt, h.rp.lt⟩
theorem OM.below {q : OB} {s : OL} {w w' : World} (hm : OM q s w) (h : Below w.heap.size w w') : OM q s w' :=
  hm.same h hm.lts.1 hm.lts.2.1 hm.lts.2.2.1 hm.lts.2.2.2
theorem OM.alloc {q : OB} {s : OL} {w : World} (hm : OM q s w) (o : Obj) : OM q s (w.alloc o) := hm.below ((Below.refl _ w).alloc (Nat.le_refl _) o)

/-- A row of cap cells; the first hold xs. -/
def Buf (w : World) (b cap : Nat) (xs : List Nat) : Prop := ∃ f, Row w b 3 cap f ∧ xs.length ≤ cap ∧ ∀ (i v : Nat), xs[i]? = some v → f i = .int .i64 (v : Int)

theorem Buf.run {w : World} {b cap : Nat} {xs : List Nat} (h : Buf w b cap xs) : RunAt w b xs := by
  obtain ⟨f, h1, h2, h3⟩ := h
  intro i v hv
  have hi := (List.getElem?_eq_some_iff.1 hv).1
  rw [h1.cell i (by omega), h3 i v hv]
theorem Buf.lt {w : World} {b cap : Nat} {xs : List Nat} (h : Buf w b cap xs) : b < w.heap.size := by
  obtain ⟨f, h1, h2, h3⟩ := h; exact h1.lt
theorem Buf.same {w w' : World} {b cap : Nat} {xs : List Nat} (h : Buf w b cap xs) (e : w'.heap[b]? = w.heap[b]?) : Buf w' b cap xs := by
  obtain ⟨f, h1, h2, h3⟩ := h; exact ⟨f, h1.same e, h2, h3⟩
theorem Buf.alloc {w : World} {b cap : Nat} {xs : List Nat} (h : Buf w b cap xs) (o : Obj) : Buf (w.alloc o) b cap xs := h.same (Below.heap_alloc _ _ _ h.lt)
theorem Buf.made (w : World) (n : Nat) : Buf (w.alloc (.cells (madeCells #[.int .i64 0] n) 3)) w.heap.size n [] :=
  ⟨_, Row.made w (.int .i64 0) rfl n 3, Nat.zero_le _, fun i v hv => by simp at hv⟩
theorem Buf.push {w : World} {b cap : Nat} {xs : List Nat} (h : Buf w b cap xs) (v : Nat) (hl : xs.length < cap) : Buf (w.setCell ⟨b, xs.length, none⟩ (.int .i64 (v : Int))) b cap (xs ++ [v]) := by
  obtain ⟨f, h1, h2, h3⟩ := h
  refine ⟨_, h1.set _ _, by simp; omega, fun i u hu => ?_⟩
  by_cases e : i = xs.length
  · subst e; rw [upd_same]; simp at hu; rw [hu]
  · have hi := (List.getElem?_eq_some_iff.1 hu).1
    simp at hi
    rw [upd_other _ _ _ _ e]
    rw [List.getElem?_append_left (by omega)] at hu
    exact h3 i u hu
theorem Buf.pushes {b cap : Nat} : ∀ (ys xs : List Nat) {w : World}, Buf w b cap xs → xs.length + ys.length ≤ cap → Buf (w.setCells b xs.length (ys.map fun (v : Nat) => .int .i64 (v : Int))) b cap (xs ++ ys)
  | [], xs, w, h, _ => by simpa [World.setCells] using h
  | v :: r, xs, w, h, hl => by
    have h1 := h.push v (by simp at hl; omega)
    have h2 := Buf.pushes r (xs ++ [v]) h1 (by simp at hl ⊢; omega)
    rw [List.append_assoc] at h2
    simpa [World.setCells] using h2

theorem make_room (n : Nat) (hn : n ≤ 201) (w : World) : (Instr.makeSlice 31 (.int .i64 0) (.int .i64 (n : Int))).run Yba.prog w = .ok (.slice (some ⟨w.heap.size, 0, none⟩) 0 n) (w.alloc (.cells (madeCells #[.int .i64 0] n) 3)) := by
  obtain ⟨i, hi, hz0, hz1, hz2⟩ := info_parts k_info3
  have := run_make (P := Yba.prog) w 31 3 i (.int .i64 0) Yba.underlying31 hi hz0 .i64 .i64 0 (n : Int) (by omega) (by omega) (by rw [hz2]; omega) (by omega)
  rw [hz1, Nat.mul_one] at this
  exact this

theorem run_one (w : World) (c : Nat) : RunAt (w.alloc (.cells #[.int .i64 (c : Int)] 3)) w.heap.size [c] := by
  intro i v hv
  have hi : i = 0 := by
    have := (List.getElem?_eq_some_iff.1 hv).1
    simp at this
    omega
  subst hi
  simp at hv
  subst hv
  exact (cell_of_row _ w.heap.size 0 _ _ _ (heap_alloc_new w _)).trans rfl

/-- append with room. -/
theorem wpList_push (w : World) {ops : Array Oper} {rest : List Oper} {o : Oper} {a : Act} {Q : Exit → Act → World → Prop} (hgd : o.guard = none) (s x : Operand)
    (ho : o.op = Op.call { callee := Callee.builtin Builtin.append, args := #[s, x], argTypes := #[31, 31] }) (b cap bx cx n m : Nat) (xs ys : List Nat)
    (hs : a.eval s = .slice (some ⟨b, 0, none⟩) n cap) (hx : a.eval x = .slice (some ⟨bx, 0, none⟩) m cx) (hn : xs.length = n) (hm : ys.length = m) (hB : Buf w b cap xs) (hY : RunAt w bx ys) (hroom : n + m ≤ cap)
    (h : ∀ w', Buf w' b cap (xs ++ ys) → Only b w w' → wpList Yba.prog ops Q rest (a.put o.dst (.slice (some ⟨b, 0, none⟩) (n + m) cap)) w') :
    wpList Yba.prog ops Q (o :: rest) a w := by
  obtain ⟨i, hi, hz0, hz1, hz2⟩ := info_parts k_info3
  subst hn hm
  obtain ⟨f, h1, h2, h3⟩ := id hB
  have hrun := run_append_room_cells (P := Yba.prog) w 31 o.type 3 i Yba.underlying31 hi b 0 xs.length cap ⟨bx, 0, none⟩ ys.length cx (ys.map fun (v : Nat) => .int .i64 (v : Int)) (by rw [hz1]; simp)
    (fun j u hu => by
      rw [Addr.add_lit]
      simp only [List.getElem?_map, Option.map_eq_some_iff] at hu
      obtain ⟨v, hv, rfl⟩ := hu
      simpa using hY j v hv)
    (fun u hu => by simp at hu; obtain ⟨v, _, rfl⟩ := hu; rfl) hroom
    (fun j hj => by simp at hj; rw [hz1, h1.cell _ (by omega)]; rfl) (fun j hj => h1.free _)
  rw [hz1] at hrun
  simp only [Nat.mul_one, Nat.zero_add] at hrun
  refine wpList_plain hgd fun K hK' => ?_
  unfold Oper.wp
  simp [execOp, ho, resolve, invoke, builtin, hs, hx, hrun, Result.andThen]
  exact hK' _ _ (h _ (hB.pushes ys xs hroom) ((Only.refl b w).sets _ _))

/-- Along the list, place by place. -/
structure Way (n : Nat) (xs : List Nat) (s : OL) (z : Nat → Nat) : Prop where
  z0 : z 0 = n
  ze : z (n + 1) = n
  lt : ∀ k, k < n → z (k + 1) < n
  at' : ∀ k, k < n → xs[k]? = some (z (k + 1))
  nx : ∀ k, k ≤ n → s.nxt (z k) = z (k + 1)
  pv : ∀ k, k ≤ n → s.prv (z (k + 1)) = z k
  lb : ∀ k, k < n → s.lab (z k) < s.lab (z (k + 1))
  le : ∀ k, k ≤ n + 1 → z k ≤ n

theorem Fine.way {n : Nat} {xs : List Nat} {s : OL} (h : Fine n xs s) : Way n xs s (fun k => (n :: (xs ++ [n])).getD k 0) := by
  have hl := h.len
  have g : ∀ k, k ≤ n + 1 → (n :: (xs ++ [n]))[k]? = some ((n :: (xs ++ [n])).getD k 0) := by
    intro k hk
    have hk' : k < (n :: (xs ++ [n])).length := by simp; omega
    rw [List.getElem?_eq_getElem hk', getD_get hk']
  have ax : ∀ k, k < n → xs[k]? = some ((n :: (xs ++ [n])).getD (k + 1) 0) := by
    intro k hk
    rw [← g (k + 1) (by omega), List.getElem?_cons_succ, List.getElem?_append_left (by omega)]
  have lt : ∀ k, k < n → (n :: (xs ++ [n])).getD (k + 1) 0 < n := fun k hk => h.good.ring.lt _ (List.mem_of_getElem? (ax k hk))
  have ze : (n :: (xs ++ [n])).getD (n + 1) 0 = n := by
    have := g (n + 1) (Nat.le_refl _)
    rw [List.getElem?_cons_succ, List.getElem?_append_right (by omega)] at this
    rw [hl, Nat.sub_self] at this
    exact (Option.some.inj this).symm
  refine ⟨rfl, ze, lt, ax, fun k hk => (Ch_get _ h.good.ring.ch k _ _ (g k (by omega)) (g (k + 1) (by omega))).1, fun k hk => (Ch_get _ h.good.ring.ch k _ _ (g k (by omega)) (g (k + 1) (by omega))).2, ?_, ?_⟩
  · intro k hk
    have hi := Inc_iff.1 h.good.inc k (k + 1) (by omega) (by simp; omega)
    have e : ∀ j, j ≤ n → (n :: xs).getD j 0 = (n :: (xs ++ [n])).getD j 0 := by
      intro j hj
      rw [List.getD_eq_getElem?_getD, List.getD_eq_getElem?_getD, ← List.cons_append, List.getElem?_append_left (by simp; omega)]
    rw [e k (by omega), e (k + 1) (by omega)] at hi
    exact hi
  · intro k hk
    by_cases e : k = n + 1
    · rw [e, ze]; exact Nat.le_refl _
    · cases k with
      | zero => exact Nat.le_refl _
      | succ k => exact Nat.le_of_lt (lt k (by omega))

end Go.Proofs.Ybulkawna
