import Derived.Test.YbulkawnaBLabels
import Derived.Test.YbulkawnaKit
import Derived.Deep.QuietTactic
import Derived.BigQuiet
import Derived.BigRegion
namespace Go.Proofs.Ybulkawna
open Go.RowKit B
set_option linter.unusedVariables false

theorem bhid {p : Prop} (h : p) : Hid p := h

def u64v (f : Nat → Nat) (j : Nat) : Value := .int .u64 (f j : Int)
def i64v (f : Nat → Nat) (j : Nat) : Value := .int .i64 (f j : Int)
theorem u64v_up (f : Nat → Nat) (i v j : Nat) : upd (u64v f) i (.int .u64 (v : Int)) j = u64v (up f i v) j := by
  unfold upd u64v up; split <;> rfl
theorem i64v_up (f : Nat → Nat) (i v j : Nat) : upd (i64v f) i (.int .i64 (v : Int)) j = i64v (up f i v) j := by
  unfold upd i64v up; split <;> rfl

/-- Where an orderList lies. -/
structure OB where
  b : Nat
  bl : Nat
  bn : Nat
  bp : Nat
  n : Nat

structure OBok (q : OB) : Prop where
  ne : q.b ≠ q.bl ∧ q.b ≠ q.bn ∧ q.b ≠ q.bp ∧ q.bl ≠ q.bn ∧ q.bl ≠ q.bp ∧ q.bn ≠ q.bp
  hn : 2 ≤ q.n ∧ q.n ≤ 201

structure OM (q : OB) (s : OL) (w : World) : Prop where
  hb : w.heap[q.b]? = some (.cells #[.slice (some ⟨q.bl, 0, none⟩) (q.n + 1) (q.n + 1), .slice (some ⟨q.bn, 0, none⟩) (q.n + 1) (q.n + 1), .slice (some ⟨q.bp, 0, none⟩) (q.n + 1) (q.n + 1), .slice none 0 0, .slice (some ⟨q.bl, 0, none⟩) (q.n + 1) (q.n + 1)] 75 (0, 0))
  rl : Row w q.bl 94 (q.n + 1) (u64v s.lab)
  rn : Row w q.bn 3 (q.n + 1) (i64v s.nxt)
  rp : Row w q.bp 3 (q.n + 1) (i64v s.prv)

theorem OM.c0 {q : OB} {s : OL} {w : World} (h : OM q s w) : w.cell? ⟨q.b, 0, none⟩ = some (.slice (some ⟨q.bl, 0, none⟩) (q.n + 1) (q.n + 1)) := by
  have := h.hb; simp [World.cell?, this]
theorem OM.c1 {q : OB} {s : OL} {w : World} (h : OM q s w) : w.cell? ⟨q.b, 1, none⟩ = some (.slice (some ⟨q.bn, 0, none⟩) (q.n + 1) (q.n + 1)) := by
  have := h.hb; simp [World.cell?, this]
theorem OM.c2 {q : OB} {s : OL} {w : World} (h : OM q s w) : w.cell? ⟨q.b, 2, none⟩ = some (.slice (some ⟨q.bp, 0, none⟩) (q.n + 1) (q.n + 1)) := by
  have := h.hb; simp [World.cell?, this]
theorem OM.l {q : OB} {s : OL} {w : World} (h : OM q s w) (j : Nat) (hj : j ≤ q.n) : w.cell? ⟨q.bl, j, none⟩ = some (.int .u64 (s.lab j : Int)) := h.rl.cell j (by omega)
theorem OM.x {q : OB} {s : OL} {w : World} (h : OM q s w) (j : Nat) (hj : j ≤ q.n) : w.cell? ⟨q.bn, j, none⟩ = some (.int .i64 (s.nxt j : Int)) := h.rn.cell j (by omega)
theorem OM.p {q : OB} {s : OL} {w : World} (h : OM q s w) (j : Nat) (hj : j ≤ q.n) : w.cell? ⟨q.bp, j, none⟩ = some (.int .i64 (s.prv j : Int)) := h.rp.cell j (by omega)
theorem OM.drewN {q : OB} {s : OL} {w : World} (h : OM q s w) (k : Nat) : OM q s (w.drewN k) := ⟨h.hb, h.rl, h.rn, h.rp⟩
theorem OM.drew {q : OB} {s : OL} {w : World} (h : OM q s w) : OM q s w.drew := ⟨h.hb, h.rl, h.rn, h.rp⟩

theorem OM.setl {q : OB} {s : OL} {w : World} (h : OM q s w) (ok : OBok q) (i v : Nat) : OM q { s with lab := up s.lab i v } (w.setCell ⟨q.bl, i, none⟩ (.int .u64 (v : Int))) := by
  obtain ⟨n1, n2, n3, n4, n5, n6⟩ := ok.ne
  exact ⟨by rw [Below.heap_setCell _ _ _ _ (by simp; omega)]; exact h.hb, (h.rl.set i _).congr (fun j _ => u64v_up s.lab i v j), h.rn.other _ _ (by simp; omega), h.rp.other _ _ (by simp; omega)⟩
theorem OM.setn {q : OB} {s : OL} {w : World} (h : OM q s w) (ok : OBok q) (i v : Nat) : OM q { s with nxt := up s.nxt i v } (w.setCell ⟨q.bn, i, none⟩ (.int .i64 (v : Int))) := by
  obtain ⟨n1, n2, n3, n4, n5, n6⟩ := ok.ne
  exact ⟨by rw [Below.heap_setCell _ _ _ _ (by simp; omega)]; exact h.hb, h.rl.other _ _ (by simp; omega), (h.rn.set i _).congr (fun j _ => i64v_up s.nxt i v j), h.rp.other _ _ (by simp; omega)⟩
theorem OM.setp {q : OB} {s : OL} {w : World} (h : OM q s w) (ok : OBok q) (i v : Nat) : OM q { s with prv := up s.prv i v } (w.setCell ⟨q.bp, i, none⟩ (.int .i64 (v : Int))) := by
  obtain ⟨n1, n2, n3, n4, n5, n6⟩ := ok.ne
  exact ⟨by rw [Below.heap_setCell _ _ _ _ (by simp; omega)]; exact h.hb, h.rl.other _ _ (by simp; omega), h.rn.other _ _ (by simp; omega), (h.rp.set i _).congr (fun j _ => i64v_up s.prv i v j)⟩

/-- Of what was there, at most the three rows have turned. -/
structure K3 (q : OB) (w w' : World) : Prop where
  os : w'.os = w.os
  tape : w'.tape = w.tape
  output : w'.output = w.output
  size : w.heap.size ≤ w'.heap.size
  block : ∀ k, k < w.heap.size → k ≠ q.bl → k ≠ q.bn → k ≠ q.bp → w'.heap[k]? = w.heap[k]?

theorem K3.refl (q : OB) (w : World) : K3 q w w := ⟨rfl, rfl, rfl, Nat.le_refl _, fun _ _ _ _ _ => rfl⟩
theorem K3.trans {q : OB} {a b c : World} (h : K3 q a b) (k : K3 q b c) : K3 q a c :=
  ⟨k.os.trans h.os, k.tape.trans h.tape, k.output.trans h.output, Nat.le_trans h.size k.size, fun i hi h1 h2 h3 => (k.block i (by have := h.size; omega) h1 h2 h3).trans (h.block i hi h1 h2 h3)⟩
theorem K3.drewN {q : OB} {a w : World} (h : K3 q a w) (k : Nat) : K3 q a (w.drewN k) := ⟨h.os, h.tape, h.output, h.size, h.block⟩
theorem K3.drew {q : OB} {a w : World} (h : K3 q a w) : K3 q a w.drew := ⟨h.os, h.tape, h.output, h.size, h.block⟩
theorem K3.set {q : OB} {a w : World} (h : K3 q a w) (b i : Nat) (v : Value) (hb : b = q.bl ∨ b = q.bn ∨ b = q.bp) : K3 q a (w.setCell ⟨b, i, none⟩ v) :=
  ⟨h.os, h.tape, h.output, by have := h.size; simp [World.setCell]; omega, fun k hk h1 h2 h3 => by
    rw [Below.heap_setCell _ _ _ _ (by simp; rcases hb with r | r | r <;> omega)]; exact h.block k hk h1 h2 h3⟩
theorem K3.alloc {q : OB} {a w : World} (h : K3 q a w) (o : Obj) : K3 q a (w.alloc o) :=
  ⟨h.os, h.tape, h.output, by have := h.size; simp; omega, fun k hk h1 h2 h3 => by
    rw [Below.heap_alloc _ _ _ (by have := h.size; omega)]; exact h.block k hk h1 h2 h3⟩
theorem K3.below {q : OB} {w w' : World} {N : Nat} (h : K3 q w w') (hN : N ≤ w.heap.size) (h1 : N ≤ q.bl) (h2 : N ≤ q.bn) (h3 : N ≤ q.bp) : Below N w w' :=
  ⟨h.os, h.tape, h.output, h.size, fun k hk => h.block k (by omega) (by omega) (by omega) (by omega)⟩

end Go.Proofs.Ybulkawna
