import Derived.Test.YbulkawnaACall
import Derived.Laws.CopyOwn
import Derived.Deep.WholeRow
import Derived.Deep.QuietTactic
import Derived.BigQuiet
namespace Go.Proofs.Ybulkawna
open Go.RowKit
set_option linter.unusedVariables false

theorem a_info37 : (Yba.prog.info? 37).map (fun i => (i.zero, i.size, i.bytes)) = some (some (.int .i8 0), 1, 1) := by kernel_rfl

theorem a_make37 (n : Nat) (hn : n ≤ 8192) : ∃ cs : List Value, cs.length = n ∧ (∀ j, j < n → cs[j]? = some (.int .i8 0)) ∧ ∀ w : World, (Instr.makeSlice 28 (.int .i64 n) (.int .i64 n)).run Yba.prog w = .ok (.slice (some ⟨w.heap.size, 0, none⟩) n n) (w.alloc (.cells cs.toArray 37)) := by
  obtain ⟨i, hi, hz0, hz1, hz2⟩ := info_parts a_info37
  refine ⟨(madeCells (Value.int .i8 0).cells n).toList, by simp [size_madeCells], ?_, fun w => ?_⟩
  · intro j hj
    simp [madeCells, hj, Value.cells, Nat.mod_one]
  · have := run_make (P := Yba.prog) w 28 37 i _ Yba.underlying28 hi hz0 .i64 .i64 n n (by omega) (by omega) (by rw [hz2]; omega) (by omega)
    rw [hz1] at this
    simpa using this

/-- The log behind k atoms. -/
def logOf (z : Nat → Int) (k : Nat) : List Int := ((List.range k).filter fun j => decide (z j < 0)).map Int.ofNat

theorem logOf_neg {z : Nat → Int} {k : Nat} (h : z k < 0) : logOf z (k + 1) = logOf z k ++ [(k : Int)] := by
  simp [logOf, List.range_succ, List.filter_append, h]
theorem logOf_pos {z : Nat → Int} {k : Nat} (h : 0 ≤ z k) : logOf z (k + 1) = logOf z k := by
  have : ¬ z k < 0 := by omega
  simp [logOf, List.range_succ, List.filter_append, this]
theorem logOf_le (z : Nat → Int) (k : Nat) : (logOf z k).length ≤ k := by
  have := List.length_filter_le (fun j => decide (z j < 0)) (List.range k)
  simp [logOf] at this ⊢
  exact this

theorem Log.form {L B : Nat} {xs : List Int} {n : Int} {w : World} (h : Log L B (xs ++ [n]) w) :
    ∃ g cap, w.cell? ⟨L, 0, none⟩ = some (.slice (some ⟨g, 0, none⟩) (xs.length + 1) cap) ∧ w.cell? ⟨g, xs.length, none⟩ = some (.int .i64 n) := by
  obtain ⟨v, hv, hown⟩ := h
  have hc := fun g => hown.cells (g := g)
  rcases hown.2 with ⟨_, h⟩ | ⟨g, cap, cur, h, _⟩
  · simp at h
  · subst h
    refine ⟨g, cap, by simpa using cell_of_one hv, ?_⟩
    have := hc g rfl xs.length (.int .i64 n) (by simp)
    simpa [Addr.add_lit] using this
theorem Log.len {L B : Nat} {xs : List Int} {w : World} (h : Log L B xs w) :
    ∃ ao cap, w.cell? ⟨L, 0, none⟩ = some (.slice ao xs.length cap) := by
  obtain ⟨v, hv, hown⟩ := h
  rcases hown.2 with ⟨h1, h⟩ | ⟨g, cap, cur, h, _⟩
  · subst h1; rw [h]; exact ⟨_, _, cell_of_one hv⟩
  · subst h; exact ⟨_, _, cell_of_one hv⟩

/-- A slice that came in: its cells. -/
def Came (S : Nat) (ao : Option Addr) (len : Nat) (c : Nat → Value) (w : World) : Prop :=
  ∀ j, j < len → ∃ b off, ao = some ⟨b, off, none⟩ ∧ b < S ∧ w.cell? ⟨b, off + j, none⟩ = some (c j)

theorem Came.below {S N : Nat} {ao : Option Addr} {len : Nat} {c : Nat → Value} {w w' : World} (h : Came S ao len c w) (hb : Below N w w') (hS : S ≤ N) : Came S ao len c w' := by
  intro j hj
  obtain ⟨b, off, h1, h2, h3⟩ := h j hj
  exact ⟨b, off, h1, h2, (hb.cell (p := ⟨b, off + j, none⟩) (by show b < N; omega)).trans h3⟩

theorem Came.src {S : Nat} {ao : Option Addr} {len : Nat} {c : Nat → Value} {w : World} (h : Came S ao len c w) (hS : S ≤ w.heap.size) (o : Obj) (hl : 0 < len) :
    ∃ ad, ao = some ad ∧ ∀ j v, ((List.range len).map c)[j]? = some v → (w.alloc o).cell? (ad.add j) = some v := by
  obtain ⟨b, off, h1, h2, _⟩ := h 0 hl
  refine ⟨_, h1, fun j v hv => ?_⟩
  have hj : j < len := by
    rcases Nat.lt_or_ge j len with h | h
    · exact h
    · rw [List.getElem?_eq_none (by simpa using h)] at hv; cases hv
  obtain ⟨b', off', h1', _, h3⟩ := h j hj
  rw [h1] at h1'
  simp at h1'
  obtain ⟨rfl, rfl⟩ := h1'
  simp [hj] at hv
  subst hv
  rw [Addr.add_lit, World.cell?_alloc_past _ _ _ (by omega)]
  exact h3

theorem a_copy {ao : Option Addr} {l c : Nat} {z : Nat → Int} {w : World} (H : Came w.heap.size ao l (fun j => .int .i8 (z j)) w) (Z : List Value) (hZ : Z.length = l) :
    (Builtin.copy_ #[28, 28] 3 #[.slice (some ⟨w.heap.size, 0, none⟩) l l, .slice ao l c]).run Yba.prog (w.alloc (.cells Z.toArray 37)) =
      .ok (.int .i64 l) (w.alloc (.cells ((List.range l).map (fun j => Value.int .i8 (z j))).toArray 37)) := by
  have hs : (Yba.prog.info? 37).map (·.size) = some 1 := by kernel_rfl
  by_cases h0 : l = 0
  · subst h0
    obtain rfl : Z = [] := List.eq_nil_of_length_eq_zero hZ
    exact run_copy_none (P := Yba.prog) _ 28 28 3 37 _ _ 0 0 0 c Yba.underlying28 hs (by simp)
  · obtain ⟨ad, rfl, hsrc⟩ := H.src (Nat.le_refl _) (.cells Z.toArray 37) (by omega)
    have := run_copy_row (P := Yba.prog) (w.alloc (.cells Z.toArray 37)) 28 28 3 37 w.heap.size 0 l l ad l c Z.toArray 37 ((List.range l).map (fun j => Value.int .i8 (z j))) Yba.underlying28 hs (heap_alloc_new _ _) (by simp) hsrc (by simp [hZ])
      (by intro v hv; simp at hv; obtain ⟨_, _, rfl⟩ := hv; rfl)
    rw [this]
    have e : (Z.toArray.toList.take 0 ++ (List.range l).map (fun j => Value.int .i8 (z j)) ++ Z.toArray.toList.drop (0 + ((List.range l).map (fun j => Value.int .i8 (z j))).length)) = (List.range l).map (fun j => Value.int .i8 (z j)) := by
      simp [hZ]
    rw [e, World.setRow_alloc_new]
    simp [goInt]

def a_places (S l1 : Nat) (z : Nat → Int) (ao2 : Option Addr) (l2 c2 : Nat) (hh : Nat → Bool) : Places :=
  { L := S + 1 + 1, B := S + 1 + 1 + 1 + 1 + 1 + 1 + 1, bg := S + 1, pgx := S + 1 + 1 + 1 + 1 + 1, phx := S + 1 + 1 + 1 + 1 + 1 + 1, plx := S + 1 + 1 + 1 + 1, phh := S + 1 + 1 + 1, bz := S, zl := l1, zc := l1, z := z, ao := ao2, hl := l2, hc := c2, h := hh }

theorem a_below_drewN {B : Nat} {a w : World} (h : Below B a w) (n : Nat) : Below B a (w.drewN n) := ⟨h.os, h.tape, h.output, h.size, h.block⟩

theorem Came.env {S L B : Nat} {ao : Option Addr} {len : Nat} {c : Nat → Value} {w : World} (h : Came S ao len c w) (hL : S ≤ L) (hB : S ≤ B) :
    ∀ j, j < len → ∃ b off, ao = some ⟨b, off, none⟩ ∧ b < B ∧ b ≠ L ∧ w.cell? ⟨b, off + j, none⟩ = some (c j) := by
  intro j hj
  obtain ⟨b, off, h1, h2, h3⟩ := h j hj
  exact ⟨b, off, h1, by omega, by omega, h3⟩

/-- The world ahead of the first loop. -/
theorem a_start (w : World) (l1 : Nat) (z : Nat → Int) (ao2 : Option Addr) (l2 c2 : Nat) (hh : Nat → Bool) (hl1 : l1 ≤ 1024) (hl2 : l2 ≤ 1024) (cs : Array Value)
    (hcs : cs = ((List.range l1).map (fun j => Value.int .i8 (z j))).toArray) (H2 : Came w.heap.size ao2 l2 (fun j => .bool (hh j)) w) (gs : Array Value) (hg : gs[7]? = some (.slice (some ⟨w.heap.size, 0, none⟩) l1 l1)) (W : World)
    (hW : W = ((((((w.alloc (.cells cs 37)).alloc (.cells gs 30)).alloc (.cells #[.slice none 0 0] 31)).alloc (.cells #[.slice ao2 l2 c2] 22)).alloc (.cells #[.pointer (some ⟨w.heap.size + 1 + 1, 0, none⟩)] 35)).alloc (.cells #[.pointer (some ⟨w.heap.size + 1, 0, none⟩)] 23)).alloc
      (.cells #[.func (.func 22) #[] #[.pointer (some ⟨w.heap.size + 1 + 1 + 1 + 1, 0, none⟩), .pointer (some ⟨w.heap.size + 1 + 1 + 1, 0, none⟩)]] 32)) :
    Env (a_places w.heap.size l1 z ao2 l2 c2 hh) W ∧ Log (w.heap.size + 1 + 1) (w.heap.size + 1 + 1 + 1 + 1 + 1 + 1 + 1) [] W ∧ Below w.heap.size w W := by
  have hb : Below w.heap.size w W := by
    subst hW
    refine ((((((((Below.refl _ _).alloc (Nat.le_refl _) _).alloc ?_ _).alloc ?_ _).alloc ?_ _).alloc ?_ _).alloc ?_ _).alloc ?_ _) <;> simp <;> omega
  have hgs : 7 < gs.size := by
    rcases Nat.lt_or_ge 7 gs.size with h | h
    · exact h
    · rw [Array.getElem?_eq_none h] at hg; cases hg
  refine ⟨?_, ?_, hb⟩
  · have H2' := H2.below hb (Nat.le_refl _)
    refine ⟨?_, ?_, ?_, ?_, ?_, ?_, ?_, ?_, ?_, ?_, ?_, ?_, ?_, ?_, ?_, ?_, H2'.env ?_ ?_⟩ <;> simp only [a_places] <;> try omega
    · subst hW; simp
    · subst hW; simp [go_sem]
    · subst hW; simp [go_sem]
    · subst hW; simp [go_sem]
    · subst hW; simp [go_sem]
    · subst hW; simp [go_sem, hgs]; simpa [hgs] using hg
    · intro j hj
      subst hW; subst hcs
      simp [go_sem, hj]
  · refine ⟨.slice none 0 0, ?_, World.ownsRow_nil _ _ _ _⟩
    subst hW
    rw [Below.heap_alloc _ _ _ (by simp), Below.heap_alloc _ _ _ (by simp), Below.heap_alloc _ _ _ (by simp), Below.heap_alloc _ _ _ (by simp)]
    have h := heap_alloc_new ((w.alloc (.cells cs 37)).alloc (.cells gs 30)) (.cells #[.slice none 0 0] 31)
    have e : ((w.alloc (.cells cs 37)).alloc (.cells gs 30)).heap.size = w.heap.size + 1 + 1 := by simp
    rw [e] at h
    exact h

set_option maxHeartbeats 2000000 in
set_option maxRecDepth 100000 in
theorem a_listed (ao1 ao2 : Option Addr) (l1 c1 l2 c2 : Nat) (z : Nat → Int) (hh : Nat → Bool) (r : Int) (w : World) (hr : 0 ≤ r) (hr' : r ≤ 255)
    (hl1 : (l1 : Int) ≤ 1024) (hl2 : (l2 : Int) ≤ 1024) (H1 : Came w.heap.size ao1 l1 (fun j => .int .i8 (z j)) w) (H2 : Came w.heap.size ao2 l2 (fun j => .bool (hh j)) w) :
    Calls Yba.prog 4 #[.slice ao1 l1 c1, .slice ao2 l2 c2, .int .u8 r] w fun e w' => e = .returned (.bool true) ∧ Below w.heap.size w w' := by
  obtain ⟨Z, hZ, _, hmk⟩ := a_make37 l1 (by omega)
  have hcp := a_copy (c := c1) H1 Z hZ
  have HZ := hid hZ
  have X1 := hid H1
  have X2 := hid H2
  clear H1 H2 hZ
  obtain ⟨cs, hcs⟩ : ∃ cs : Array Value, cs = ((List.range l1).map (fun j => Value.int .i8 (z j))).toArray := ⟨_, rfl⟩
  rw [← hcs] at hcp
  have HCS := hid hcs
  clear hcs
  have hs : ((r % 3 == 1) = false ∧ (r % 3 == 2) = false) ∨ ((r % 3 == 1) = true) ∨ ((r % 3 == 1) = false ∧ (r % 3 == 2) = true) := by
    simp; omega
  rcases hs with ⟨s1, s2⟩ | s1 | ⟨s1, s2⟩
  all_goals
    go_enter Yba.func4, Yba.ntmps4
    go_wp2_with fail
    refine (a_mkholds (w.heap.size + 1 + 1) l2 c2 ao2 _).mono ?_
    rintro e w' ⟨rfl, rfl⟩
    go_wp2_with fail
    refine (a_reading (w.heap.size + 1) w.heap.size 0 l1 l1 _ _ (by simp) (by simp [go_sem]) ⟨_, _, _, rfl⟩).mono ?_
    rintro e w' ⟨rfl, rfl⟩
    go_wp2_with fail
    go_loopw [12, 13] (fun c i wr => ∃ k : Nat, k ≤ l1 ∧ i = .int .i64 k ∧ c = .int .i64 ((logOf z k).length : Int) ∧ Env (a_places w.heap.size l1 z ao2 l2 c2 hh) wr ∧ Log (w.heap.size + 1 + 1) (w.heap.size + 1 + 1 + 1 + 1 + 1 + 1 + 1) (logOf z k) wr ∧ Below w.heap.size w wr)
      (fun _ i _ => l1 - (intOf i).toNat)
    case atStart =>
      refine ⟨0, Nat.zero_le _, rfl, rfl, ?_⟩
      exact a_start w l1 z ao2 l2 c2 hh (by omega) (by omega) cs HCS.out X2.out _ (by rfl) _ rfl
    case round =>
      obtain ⟨k, hk, rfl, rfl, henv, hlog, hbel⟩ := hrel
      have hll := logOf_le z k
      by_cases hkl : k < l1
      · have kz : wr.cell? ⟨w.heap.size, k, none⟩ = some (.int .i8 (z k)) := henv.cz k hkl
        by_cases hneg : z k < 0
        · have C1 := hid (a_hv _ k wr henv)
          have C2 := hid (a_call_neg _ k _ wr (by omega) henv hlog hkl hneg)
          have HE := hid henv
          have HB := hid hbel
          clear henv hlog hbel
          go_wp2_with fail
          refine Calls.mono C1.out ?_
          rintro e w' ⟨rfl, rfl⟩
          go_wp2_with fail
          refine Calls.mono C2.out ?_
          rintro e w1 ⟨rfl, h1, h2⟩
          obtain ⟨g, cp, f1, f2⟩ : ∃ g cp, w1.cell? ⟨w.heap.size + 1 + 1, 0, none⟩ = some (.slice (some ⟨g, 0, none⟩) ((logOf z k).length + 1) cp) ∧ w1.cell? ⟨g, (logOf z k).length, none⟩ = some (.int .i64 k) := h1.form
          have kz1 : w1.cell? ⟨w.heap.size, k, none⟩ = some (.int .i8 (z k)) := (h2.cell _ _ HE.out.hbz.1 HE.out.hbz.2).trans kz
          have G1 := hid h1
          have G2 := hid h2
          clear h1 h2
          go_wp2
          go_roundw
          case rel => exact ⟨k + 1, by omega, by go_num, by rw [logOf_neg hneg]; simp, HE.out.kept G2.out, by rw [logOf_neg hneg]; exact G1.out, HB.out.trans (G2.out.below (by simp [a_places]; omega) (by simp [a_places]; omega))⟩
          case measure => simp [intOf]; omega
        · have hpos : 0 ≤ z k := by omega
          have C2 : Hid (Calls Yba.prog 20 #[.int .i64 k, .pointer (some ⟨w.heap.size + 1 + 1 + 1 + 1 + 1, 0, none⟩), .pointer (some ⟨w.heap.size + 1 + 1 + 1 + 1 + 1 + 1, 0, none⟩)] wr fun e w' => e = .returned (.bool (z k == 1)) ∧ w' = wr) := a_call_pos _ k wr henv hkl hpos
          obtain ⟨ag, cp, f1⟩ : ∃ ag cp, wr.cell? ⟨w.heap.size + 1 + 1, 0, none⟩ = some (.slice ag (logOf z k).length cp) := hlog.len
          have HE := hid henv
          have HB := hid hbel
          have HL := hid hlog
          clear henv hlog hbel hneg
          go_wp2_with fail
          refine Calls.mono C2.out ?_
          rintro e w1 ⟨rfl, rfl⟩
          go_wp2
          go_roundw
          case rel => exact ⟨k + 1, by omega, by go_num, by rw [logOf_pos hpos], HE.out, by rw [logOf_pos hpos]; exact HL.out, HB.out⟩
          case measure => simp [intOf]; omega
      · obtain rfl : k = l1 := by omega
        have HE := hid henv
        have HB := hid hbel
        clear hlog henv hbel hll hkl hk
        go_wp2_with fail
        go_loopw [15] (fun i wq => ∃ j m : Nat, j ≤ k ∧ i = .int .i64 j ∧ wq = wr.drewN m) (fun i _ => k - (intOf i).toNat)
        case atStart => exact ⟨0, 0, Nat.zero_le _, rfl, rfl⟩
        case round =>
          obtain ⟨j, m, hj, rfl, rfl⟩ := hrel
          by_cases hjl : j < k
          · have kz : wr.cell? ⟨w.heap.size, j, none⟩ = some (.int .i8 (z j)) := HE.out.cz j hjl
            obtain ⟨b, off, e1, e2, e3⟩ := X1.out.below HB.out (Nat.le_refl _) j hjl
            subst e1
            have hji : (j : Int) < k := by omega
            go_wp2_with fail
            go_quiet (fail)
            go_wp2
            go_roundw
            case rel => exact ⟨j + 1, _, by omega, by go_num, rfl⟩
            case measure => simp [intOf]; omega
          · go_wp2
            go_ret
            exact ⟨rfl, a_below_drewN HB.out m⟩

set_option maxRecDepth 100000 in
theorem a_listed_long (ao1 ao2 : Option Addr) (l1 c1 l2 c2 : Nat) (r : Int) (w : World)
    (h1 : (l1 : Int) ≤ 9223372036854775807) (h2 : (l2 : Int) ≤ 9223372036854775807) (h : 1024 < (l1 : Int) ∨ 1024 < (l2 : Int)) :
    Calls Yba.prog 4 #[.slice ao1 l1 c1, .slice ao2 l2 c2, .int .u8 r] w fun e w' => e = .returned (.bool true) ∧ Below w.heap.size w w' := by
  by_cases q : 1024 < (l1 : Int)
  · have hd : decide (1024 < (l1 : Int)) = true := by simpa using q
    go_enter Yba.func4, Yba.ntmps4
    go_wp2
    go_ret
    exact ⟨rfl, Below.refl _ _⟩
  · have hd : decide (1024 < (l1 : Int)) = false := by simpa using q
    have q2 : 1024 < (l2 : Int) := by omega
    have hd2 : decide (1024 < (l2 : Int)) = true := by simpa using q2
    go_enter Yba.func4, Yba.ntmps4
    go_wp2
    go_ret
    exact ⟨rfl, Below.refl _ _⟩

end Go.Proofs.Ybulkawna
