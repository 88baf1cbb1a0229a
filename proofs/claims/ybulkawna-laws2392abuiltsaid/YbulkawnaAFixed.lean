import Derived.Test.YbulkawnaACall
import Derived.Test.YbulkawnaKit
import Derived.Deep.QuietTactic
import Derived.BigQuiet
import Derived.BigRegion
import Derived.Deep.RegionWith
namespace Go.Proofs.Ybulkawna
open Go.RowKit
set_option linter.unusedVariables false

theorem a_enabled (bx b1 b2 kk r : Nat) (w : World) (hr : (r : Int) < kk) (hk : (kk : Int) ≤ 1025)
    (x1 : w.cell? ⟨bx, 1, none⟩ = some (.slice (some ⟨b1, 0, none⟩) kk kk)) (x2 : w.cell? ⟨bx, 2, none⟩ = some (.slice (some ⟨b2, 0, none⟩) kk kk))
    (p1 : w.cell? ⟨b1, r, none⟩ = some (.int .i64 r)) (p2 : w.cell? ⟨b2, r, none⟩ = some (.int .i64 (2 * (r : Int)))) :
    Calls Yba.prog 28 #[.pointer (some ⟨bx, 0, none⟩), .int .i64 r] w fun e w' => e = .returned (.int .i64 (2 * (r : Int) + 1)) ∧ w' = w := by
  go_enter Yba.func28, Yba.ntmps28
  go_wp2
  go_ret
  exact ⟨rfl, rfl⟩
theorem a_member (bx b1 b2 kk r : Nat) (w : World) (hr : (r : Int) < kk) (hk : (kk : Int) ≤ 1025)
    (x1 : w.cell? ⟨bx, 1, none⟩ = some (.slice (some ⟨b1, 0, none⟩) kk kk)) (x2 : w.cell? ⟨bx, 2, none⟩ = some (.slice (some ⟨b2, 0, none⟩) kk kk))
    (p1 : w.cell? ⟨b1, r, none⟩ = some (.int .i64 r)) (p2 : w.cell? ⟨b2, r, none⟩ = some (.int .i64 (2 * (r : Int)))) :
    Calls Yba.prog 30 #[.pointer (some ⟨bx, 0, none⟩), .int .i64 r] w fun e w' => e = .returned (.int .i64 (2 * (r : Int))) ∧ w' = w := by
  go_enter Yba.func30, Yba.ntmps30
  go_wp2
  go_ret
  exact ⟨rfl, rfl⟩

/-- Where things lie when fixed is called and no listing is there. -/
structure Lay where
  bg : Nat
  bp : Nat
  bx : Nat
  br : Nat
  bu : Nat
  bm : Nat
  b0 : Nat
  b1 : Nat
  b2 : Nat
  b4 : Nat
  kk : Nat
  nm : Nat
  cm : Nat
  sem : Int
  rl : Nat → Nat

structure Pre (p : Lay) (w : World) : Prop where
  hk0 : 1 ≤ p.kk
  hkk : p.kk ≤ 1025
  hnm : p.nm ≤ 1024
  hsem : p.sem = 1 ∨ p.sem = 3
  hg : w.heap[p.bg]? = some (.cells #[.pointer (some ⟨p.bp, 0, none⟩), .int .i64 p.sem, .pointer (some ⟨p.bx, 0, none⟩), .int .i64 0, .int .i64 0, .int .i64 0, .slice none 0 0, .slice none 0 0] 30 (0, 0))
  x0 : w.cell? ⟨p.bx, 0, none⟩ = some (.slice (some ⟨p.b0, 0, none⟩) p.kk p.kk)
  x1 : w.cell? ⟨p.bx, 1, none⟩ = some (.slice (some ⟨p.b1, 0, none⟩) p.kk p.kk)
  x2 : w.cell? ⟨p.bx, 2, none⟩ = some (.slice (some ⟨p.b2, 0, none⟩) p.kk p.kk)
  x4 : w.cell? ⟨p.bx, 4, none⟩ = some (.slice (some ⟨p.b4, 0, none⟩) (2 * p.kk) (2 * p.kk))
  r0 : Row w p.b0 3 p.kk (fun j => .int .i64 j)
  r1 : Row w p.b1 3 p.kk (fun j => .int .i64 j)
  r2 : Row w p.b2 3 p.kk (fun j => .int .i64 (2 * (j : Int)))
  p1 : w.cell? ⟨p.bp, 1, none⟩ = some (.slice (some ⟨p.bu, 0, none⟩) 1 1)
  p2 : w.cell? ⟨p.bp, 2, none⟩ = some (.slice (some ⟨p.br, 0, none⟩) p.kk p.kk)
  rr : ∀ r, r < p.kk → w.cell? ⟨p.br, r * 7 + 6, none⟩ = some (.slice none 0 0)
  uu : w.cell? ⟨p.bu, 5, none⟩ = some (.slice (some ⟨p.bm, 0, none⟩) p.nm p.cm)
  mm : ∀ j, j < p.nm → w.cell? ⟨p.bm, j * 4, none⟩ = some (.int .i64 (p.rl j)) ∧ w.cell? ⟨p.bm, j * 4 + 1, none⟩ = some (.int .i64 0) ∧ w.cell? ⟨p.bm, j * 4 + 2, none⟩ = some (.slice none 0 0) ∧ w.cell? ⟨p.bm, j * 4 + 3, none⟩ = some (.slice none 0 0)
  ml : ∀ j, j < p.nm → p.rl j < p.kk
  ne : p.bp ≠ p.bg ∧ p.bx ≠ p.bg ∧ p.br ≠ p.bg ∧ p.bu ≠ p.bg ∧ p.bm ≠ p.bg ∧ p.b0 ≠ p.bg ∧ p.b1 ≠ p.bg ∧ p.b2 ≠ p.bg
  lts : p.bg < w.heap.size

/-- The listing behind k rounds over the roles. -/
def z1 (k : Nat) (n : Nat) : Value := .int .i8 (if n % 2 = 1 ∧ n / 2 < k then -1 else 0)
def memb (rl : Nat → Nat) (m r : Nat) : Bool := (List.range m).any (fun j => rl j == r)
/-- The listing behind m rounds over the memberships. -/
def zz (rl : Nat → Nat) (m n : Nat) : Int := if n % 2 = 1 then -1 else if memb rl m (n / 2) = true then 1 else 0
def z2 (rl : Nat → Nat) (m n : Nat) : Value := .int .i8 (zz rl m n)

theorem z1_upd (k n : Nat) : upd (z1 k) (2 * k + 1) (.int .i8 (-1)) n = z1 (k + 1) n := by
  unfold upd z1
  split
  · rename_i h; subst h; rw [if_pos (by omega)]
  · rename_i h
    by_cases c : n % 2 = 1 ∧ n / 2 < k
    · rw [if_pos c, if_pos (by omega)]
    · rw [if_neg c, if_neg (by omega)]
theorem z2_start (rl : Nat → Nat) (kk n : Nat) (hn : n < 2 * kk) : z1 kk n = z2 rl 0 n := by
  unfold z1 z2 zz memb
  by_cases c : n % 2 = 1
  · rw [if_pos (by omega), if_pos c]
  · rw [if_neg (by omega), if_neg c]; simp
theorem memb_succ (rl : Nat → Nat) (m r : Nat) : memb rl (m + 1) r = (memb rl m r || rl m == r) := by
  simp [memb, List.range_succ]
theorem z2_upd (rl : Nat → Nat) (m n : Nat) : upd (z2 rl m) (2 * rl m) (.int .i8 1) n = z2 rl (m + 1) n := by
  unfold upd z2 zz
  split
  · rename_i h; subst h
    have h1 : ¬ 2 * rl m % 2 = 1 := by omega
    have h2 : 2 * rl m / 2 = rl m := by omega
    have h3 : memb rl (m + 1) (rl m) = true := by rw [memb_succ]; simp
    rw [if_neg h1, h2, if_pos h3]
  · rename_i h
    by_cases c : n % 2 = 1
    · rw [if_pos c, if_pos c]
    · have e : memb rl (m + 1) (n / 2) = memb rl m (n / 2) := by
        rw [memb_succ]
        have : (rl m == n / 2) = false := by simp; omega
        rw [this, Bool.or_false]
      rw [if_neg c, if_neg c, e]

/-- g, its listing laid. -/
def gcells (p : Lay) (v : Value) : Array Value := #[.pointer (some ⟨p.bp, 0, none⟩), .int .i64 p.sem, .pointer (some ⟨p.bx, 0, none⟩), .int .i64 0, .int .i64 0, .int .i64 0, .slice none 0 0, v]

/-- What holds at each round. -/
structure Mid (p : Lay) (w : World) (f : Nat → Value) (wr : World) : Prop where
  kept : Kept p.bg w.heap.size w wr
  hg : wr.heap[p.bg]? = some (.cells (gcells p (.slice (some ⟨w.heap.size, 0, none⟩) (2 * p.kk) (2 * p.kk))) 30 (0, 0))
  row : Row wr w.heap.size 37 (2 * p.kk) f

theorem Mid.g7 {p : Lay} {w : World} {f : Nat → Value} {wr : World} (h : Mid p w f wr) : wr.cell? ⟨p.bg, 7, none⟩ = some (.slice (some ⟨w.heap.size, 0, none⟩) (2 * p.kk) (2 * p.kk)) := by
  have := h.hg
  simp [World.cell?, this, gcells]
theorem Mid.g0 {p : Lay} {w : World} {f : Nat → Value} {wr : World} (h : Mid p w f wr) : wr.cell? ⟨p.bg, 0, none⟩ = some (.pointer (some ⟨p.bp, 0, none⟩)) := by
  have := h.hg
  simp [World.cell?, this, gcells]
theorem Mid.g3 {p : Lay} {w : World} {f : Nat → Value} {wr : World} (h : Mid p w f wr) : wr.cell? ⟨p.bg, 3, none⟩ = some (.int .i64 0) := by
  have := h.hg
  simp [World.cell?, this, gcells]
theorem Mid.drewN {p : Lay} {w : World} {f : Nat → Value} {wr : World} (h : Mid p w f wr) (m : Nat) : Mid p w f (wr.drewN m) := ⟨h.kept.drewN m, h.hg, h.row⟩
theorem Mid.drew {p : Lay} {w : World} {f : Nat → Value} {wr : World} (h : Mid p w f wr) : Mid p w f wr.drew := ⟨h.kept.drew, h.hg, h.row⟩
theorem Mid.store {p : Lay} {w : World} {f : Nat → Value} {wr : World} (h : Mid p w f wr) (hlt : p.bg < w.heap.size) (i : Nat) (v : Value) : Mid p w (upd f i v) (wr.setCell ⟨w.heap.size, i, none⟩ v) := by
  refine ⟨⟨h.kept.os, h.kept.tape, h.kept.output, ?_, fun k hk hl => ?_⟩, ?_, h.row.set i v⟩
  · have := h.kept.size; simp [World.setCell]; omega
  · rw [Below.heap_setCell _ _ _ _ (by simp; omega)]; exact h.kept.block k hk hl
  · rw [Below.heap_setCell _ _ _ _ (by simp; omega)]; exact h.hg
theorem Mid.alloc {p : Lay} {w : World} {f : Nat → Value} {wr : World} (h : Mid p w f wr) (o : Obj) : Mid p w f (wr.alloc o) := by
  have hs := h.kept.size
  refine ⟨⟨h.kept.os, h.kept.tape, h.kept.output, ?_, fun k hk hl => ?_⟩, ?_, h.row.alloc o⟩
  · simp; omega
  · rw [Below.heap_alloc _ _ _ (by omega)]; exact h.kept.block k hk hl
  · rw [Below.heap_alloc _ _ _ (lt_of_block h.hg)]; exact h.hg
theorem Mid.congr {p : Lay} {w : World} {f g : Nat → Value} {wr : World} (h : Mid p w f wr) (e : ∀ j, j < 2 * p.kk → f j = g j) : Mid p w g wr := ⟨h.kept, h.hg, h.row.congr e⟩
theorem Mid.start {p : Lay} {w : World} (h : Pre p w) : Mid p w (z1 0) ((w.setCell ⟨p.bg, 7, none⟩ (.slice (some ⟨w.heap.size, 0, none⟩) (2 * p.kk) (2 * p.kk))).alloc (.cells (madeCells #[.int .i8 0] (2 * p.kk)) 37)) := by
  have hl := h.lts
  have hsz : (w.setCell ⟨p.bg, 7, none⟩ (.slice (some ⟨w.heap.size, 0, none⟩) (2 * p.kk) (2 * p.kk))).heap.size = w.heap.size := by simp [World.setCell]
  refine ⟨⟨rfl, rfl, rfl, by simp [World.setCell], fun k hk hne => ?_⟩, ?_, ?_⟩
  · rw [Below.heap_alloc _ _ _ (by omega), Below.heap_setCell _ _ _ _ hne]
  · rw [Below.heap_alloc _ _ _ (by omega), heap_set_same h.hg]; simp [gcells]
  · have := (Row.made (w.setCell ⟨p.bg, 7, none⟩ (.slice (some ⟨w.heap.size, 0, none⟩) (2 * p.kk) (2 * p.kk))) (.int .i8 0) rfl (2 * p.kk) 37).congr (g := z1 0) (fun j hj => by simp [z1])
    rw [hsz] at this
    exact this

end Go.Proofs.Ybulkawna
