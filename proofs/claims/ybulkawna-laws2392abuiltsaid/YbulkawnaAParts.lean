import Derived.Test.YbulkawnaRows
import Derived.WalkKit
import Derived.WalkSpells
import Derived.WalkLawsBesides
import Derived.RowKit3
import Derived.OneCell
import Derived.Deep.RegionLaw
namespace Go.Proofs.Ybulkawna
open Go.RowKit
set_option linter.unusedVariables false

/-- Below block B, but for block L, the world is as it was. -/
structure Kept (L B : Nat) (w w' : World) : Prop where
  os : w'.os = w.os
  tape : w'.tape = w.tape
  output : w'.output = w.output
  size : w.heap.size ≤ w'.heap.size
  block : ∀ k, k < B → k ≠ L → w'.heap[k]? = w.heap[k]?

theorem Kept.refl (L B : Nat) (w : World) : Kept L B w w := ⟨rfl, rfl, rfl, Nat.le_refl _, fun _ _ _ => rfl⟩
theorem Kept.trans {L B : Nat} {a b c : World} (h : Kept L B a b) (k : Kept L B b c) : Kept L B a c :=
  ⟨k.os.trans h.os, k.tape.trans h.tape, k.output.trans h.output, Nat.le_trans h.size k.size, fun i hi hl => (k.block i hi hl).trans (h.block i hi hl)⟩
theorem Kept.cell {L B : Nat} {w w' : World} (h : Kept L B w w') (b o : Nat) (hb : b < B) (hl : b ≠ L) : w'.cell? ⟨b, o, none⟩ = w.cell? ⟨b, o, none⟩ :=
  World.cell?_of_block (w := w) (h.block b hb hl)
theorem Kept.cella {L B : Nat} {w w' : World} (h : Kept L B w w') (a : Addr) (hb : a.block < B) (hl : a.block ≠ L) : w'.cell? a = w.cell? a :=
  World.cell?_of_block (w := w) (h.block a.block hb hl)
theorem Kept.frozen {L B : Nat} {w w' : World} (h : Kept L B w w') (b o : Nat) (hb : b < B) (hl : b ≠ L) : w'.frozen? ⟨b, o, none⟩ = w.frozen? ⟨b, o, none⟩ :=
  World.frozen?_of_block (w := w) (h.block b hb hl)
theorem Kept.below {L B N : Nat} {w w' : World} (h : Kept L B w w') (h1 : N ≤ L) (h2 : N ≤ B) : Below N w w' :=
  ⟨h.os, h.tape, h.output, h.size, fun k hk => h.block k (by omega) (by omega)⟩
theorem Kept.drew {L B : Nat} {a w : World} (h : Kept L B a w) : Kept L B a w.drew := ⟨h.os, h.tape, h.output, h.size, h.block⟩
theorem Kept.drewN {L B : Nat} {a w : World} (h : Kept L B a w) (n : Nat) : Kept L B a (w.drewN n) := ⟨h.os, h.tape, h.output, h.size, h.block⟩

/-- The log: a variable in block L that holds a slice of the call's own, its cells xs. -/
def Log (L B : Nat) (xs : List Int) (w : World) : Prop :=
  ∃ v, w.heap[L]? = some (.cells #[v] 31 (0, 0)) ∧ w.ownsRow B 3 1 v xs.length (xs.map (Value.int .i64))

theorem Log.own {B n : Nat} {w : World} {v : Value} {xs : List Value} (h : Hid (w.ownsRow B 3 1 v n xs)) (o : Obj) : (w.alloc o).drew.ownsRow B 3 1 v n xs := (World.ownsRow.alloc h.out o).drew

theorem Log.drewN {L B : Nat} {xs : List Int} {w : World} (h : Log L B xs w) (n : Nat) : Log L B xs (w.drewN n) := h

/-- append onto a slice of the call's own, as one step of a region that draws. -/
theorem step_append_own {P : Program} {ops : Array Oper} {o : Oper} {a : Act} {w : World} {K : Act → World → Prop} {Q : Exit → Act → World → Prop} {E : Prop}
    (hg : o.guard = none) (s x : Operand) (t : TypeId) (hop : o.op = Op.call { callee := Callee.builtin Builtin.append, args := #[s, x], argTypes := #[t, t] })
    (base : Nat) (e : TypeId) (i : TypeInfo) (z : Value) (size bytes : Nat) (h1 : P.underlying t = some (.slice e)) (h2 : P.info? e = some i) (h3 : i.zero = some z) (h4 : i.size = size) (h5 : i.bytes = bytes) (h6 : z.cells.size = size) (h7 : 0 < size)
    (v : Value) (n : Nat) (xs : List Value) (hs : a.eval s = v) (hown : w.ownsRow base e size v n xs)
    (ad : Addr) (m c : Nat) (news : List Value) (hx : a.eval x = .slice (some ad) m c) (hn : news.length = m * size) (hc : ∀ j u, news[j]? = some u → w.cell? (ad.add j) = some u) (h1c : ∀ u ∈ news, u.oneCell' = true)
    (b1 : n + m ≤ maxLen) (b2 : (n + m) * bytes ≤ 140737488355328) (hbase : base ≤ w.heap.size)
    (hK : ∀ v' w', w'.ownsRow base e size v' (n + m) (xs ++ news) → w.grownBy w' v.ownBlock → K (a.put o.dst v') w') :
    if Region.wanted o (yielded ops a.tmps) = true then Oper.wp P o a w K Q else E := by
  have hw : Region.wanted o (yielded ops a.tmps) = true := by simp [Region.wanted, hg]
  rw [if_pos hw]
  obtain ⟨v', w', hrun, r1, r2, _⟩ := run_append_own (P := P) w base t o.type e i z size bytes h1 h2 h3 h4 h5 h6 h7 v n xs hown ad m c news hn hc h1c b1 b2 hbase
  unfold Oper.wp
  simp [execOp, hop, resolve, invoke, builtin, hs, hx, hrun, Result.andThen]
  exact hK v' w' r1 r2

theorem a_info3 : (Yba.prog.info? 3).map (fun i => (i.zero, i.size, i.bytes)) = some (some (.int .i64 0), 1, 8) := by kernel_rfl

/-- What one append and the store behind it make of the log. -/
theorem log_step {L B : Nat} {xs : List Int} {n : Int} {w w1 : World} {v v' : Value} {o : Obj} (hL : L < B) (hB : B ≤ w.heap.size) (hc : w.heap[L]? = some (.cells #[v] 31 (0, 0)))
    (hown : w.ownsRow B 3 1 v xs.length (xs.map (Value.int .i64)))
    (h1 : w1.ownsRow B 3 1 v' (xs.length + 1) (xs.map (Value.int .i64) ++ [Value.int .i64 n])) (hg : (w.alloc o).drew.grownBy w1 v.ownBlock) :
    w1.cell? ⟨L, 0, none⟩ = some v ∧ w1.frozen? ⟨L, 0, none⟩ = false ∧ (∃ g cap, v' = .slice (some ⟨g, 0, none⟩) (xs.length + 1) cap) ∧
      Log L B (xs ++ [n]) (w1.setCell ⟨L, 0, none⟩ v') ∧ Kept L B w (w1.setCell ⟨L, 0, none⟩ v') ∧ (∀ b o, b < B → w1.cell? ⟨b, o, none⟩ = w.cell? ⟨b, o, none⟩) := by
  have hlt : L < w.heap.size := by omega
  have hb : ∀ k, k < B → w1.heap[k]? = w.heap[k]? := by
    intro k hk
    refine (hg.block k (by simp; omega) (fun e => by have := hown.lt k e.symm; omega)).trans ?_
    exact Below.heap_alloc _ _ _ (by omega)
  have hL1 : w1.heap[L]? = some (.cells #[v] 31 (0, 0)) := (hb L hL).trans hc
  refine ⟨cell_of_one hL1, free_of_one hL1, ?_, ?_, ?_, fun b o hb' => World.cell?_of_block (w := w) (hb b hb')⟩
  · rcases h1.2 with ⟨_, h⟩ | ⟨g, cap, _, h, _⟩
    · omega
    · exact ⟨g, cap, h⟩
  · refine ⟨v', one_setCell hL1, ?_⟩
    have := ownsRow_setCell_below h1 (a := ⟨L, 0, none⟩) hL v'
    simpa using this
  · refine ⟨hg.os, hg.tape, hg.output, ?_, fun k hk hkl => ?_⟩
    · have := hg.size; simp [World.setCell] at this ⊢; omega
    · rw [Below.heap_setCell _ _ _ _ hkl]; exact hb k hk

end Go.Proofs.Ybulkawna
