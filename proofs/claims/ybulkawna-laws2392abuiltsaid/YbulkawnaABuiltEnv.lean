import Derived.Test.YbulkawnaABuiltParts
namespace Go.Proofs.Ybulkawna
open Go.RowKit
set_option linter.unusedVariables false

theorem cell_alloc {w : World} {b o : Nat} {v : Value} (h : w.cell? ⟨b, o, none⟩ = some v) (ob : Obj) : (w.alloc ob).cell? ⟨b, o, none⟩ = some v :=
  (World.cell?_alloc_past _ _ _ (World.block_lt_of_cell? (a := ⟨b, o, none⟩) _ h)).trans h

theorem Pre.alloc {p : Lay} {w : World} (h : Pre p w) (o : Obj) : Pre p (w.alloc o) where
  hk0 := h.hk0
  hkk := h.hkk
  hnm := h.hnm
  hsem := h.hsem
  hg := (Below.heap_alloc _ _ _ h.lts).trans h.hg
  x0 := cell_alloc h.x0 o
  x1 := cell_alloc h.x1 o
  x2 := cell_alloc h.x2 o
  x4 := cell_alloc h.x4 o
  r0 := h.r0.alloc o
  r1 := h.r1.alloc o
  r2 := h.r2.alloc o
  p1 := cell_alloc h.p1 o
  p2 := cell_alloc h.p2 o
  rr := fun r hr => cell_alloc (h.rr r hr) o
  uu := cell_alloc h.uu o
  mm := fun j hj => ⟨cell_alloc (h.mm j hj).1 o, cell_alloc (h.mm j hj).2.1 o, cell_alloc (h.mm j hj).2.2.1 o, cell_alloc (h.mm j hj).2.2.2 o⟩
  ml := h.ml
  ne := h.ne
  lts := by have := h.lts; simp; omega

set_option maxRecDepth 100000 in
theorem a_reading_built (p : Lay) (k : Fn) (a c : Array Value) (w : World) (h : Pre p w) :
    Calls Yba.prog 9 #[.pointer (some ⟨p.bg, 0, none⟩), .func k a c] w fun e w' =>
      e = .returned (.func (.func 20) #[] #[.pointer (some ⟨w.heap.size, 0, none⟩), .pointer (some ⟨w.heap.size + 1, 0, none⟩)]) ∧
      Mid p ((w.alloc (.cells #[.pointer (some ⟨p.bg, 0, none⟩)] 23)).alloc (.cells #[.func k a c] 32)) (z2 p.rl p.nm) w' := by
  have F := hid (a_fixed_built p _ ((h.alloc (.cells #[.pointer (some ⟨p.bg, 0, none⟩)] 23)).alloc (.cells #[.func k a c] 32)))
  have hne := fun (ww : World) (ad : Addr) => Lib.run_eql_slice_nil (P := Yba.prog) ww 28 37 (some ad) (2 * p.kk) (2 * p.kk) 0 0 Yba.underlying28
  clear h
  go_enter Yba.func9, Yba.ntmps9
  go_wp2_with fail
  refine Calls.mono F.out ?_
  rintro e w1 ⟨rfl, hm⟩
  have HM := hid hm
  clear hm
  go_wp2
  go_ret
  exact ⟨rfl, HM.out⟩

/-- The blocks laid ahead of g. -/
theorem pre_built (q : XB) (w wr : World) (M : Nat) (rl : Nat → Nat) (l1 : Nat) (sem : Int) (rs : Array Value) (h : MS q w M rl l1 l1 wr) (ok : XOk q w.heap.size) (hk0 : 1 ≤ q.kk) (hkk : q.kk ≤ 1024) (hl1 : l1 ≤ 1024) (hs : sem = 1 ∨ sem = 3)
    (hrl : ∀ j, rl j < q.kk) (hrs : ∀ r, r < q.kk → rs[r * 7 + 6]? = some (.slice none 0 0)) (us ps : Array Value)
    (hu : us[5]? = some (.slice (some ⟨M + 1, 0, none⟩) l1 l1)) (hp1 : ps[1]? = some (.slice (some ⟨wr.heap.size + 1, 0, none⟩) 1 1)) (hp2 : ps[2]? = some (.slice (some ⟨wr.heap.size, 0, none⟩) q.kk q.kk)) :
    Pre ⟨wr.heap.size + 1 + 1 + 1, wr.heap.size + 1 + 1, q.bx, wr.heap.size, wr.heap.size + 1, M + 1, q.b0, q.b1, q.b2, q.b4, q.kk, l1, l1, sem, rl⟩
      ((((wr.alloc (.cells rs 118)).alloc (.cells us 57)).alloc (.cells ps 69)).alloc
        (.cells #[.pointer (some ⟨wr.heap.size + 1 + 1, 0, none⟩), .int .i64 sem, .pointer (some ⟨q.bx, 0, none⟩), .int .i64 0, .int .i64 0, .int .i64 0, .slice none 0 0, .slice none 0 0] 30)) := by
  obtain ⟨x0, x1, x2, x4, xx⟩ := h.xlt
  have hM := h.mem.lt
  have hM1 : M + 1 < wr.heap.size := by
    have := h.own.lt (M + 1) rfl
    omega
  have e1 : (wr.alloc (.cells rs 118)).heap.size = wr.heap.size + 1 := by simp
  have e2 : ((wr.alloc (.cells rs 118)).alloc (.cells us 57)).heap.size = wr.heap.size + 1 + 1 := by simp
  have e3 : (((wr.alloc (.cells rs 118)).alloc (.cells us 57)).alloc (.cells ps 69)).heap.size = wr.heap.size + 1 + 1 + 1 := by simp
  have at' : ∀ (w : World) (c : Array Value) (t : TypeId) (j : Nat) (v : Value), c[j]? = some v → (w.alloc (.cells c t)).cell? ⟨w.heap.size, j, none⟩ = some v := by
    intro w c t j v hv
    have := heap_alloc_new w (.cells c t)
    show (match (w.alloc (.cells c t)).heap[w.heap.size]? with | some (.cells c _ _) => c[j]? | _ => none) = some v
    rw [this]; exact hv
  have hc := h.own.cells (g := M + 1) rfl
  constructor
  · exact hk0
  · show q.kk ≤ 1025; omega
  · exact hl1
  · exact hs
  · have := heap_alloc_new (((wr.alloc (.cells rs 118)).alloc (.cells us 57)).alloc (.cells ps 69)) (.cells #[.pointer (some ⟨wr.heap.size + 1 + 1, 0, none⟩), .int .i64 sem, .pointer (some ⟨q.bx, 0, none⟩), .int .i64 0, .int .i64 0, .int .i64 0, .slice none 0 0, .slice none 0 0] 30)
    rw [e3] at this; exact this
  · exact cell_alloc (cell_alloc (cell_alloc (cell_alloc h.x.x0 _) _) _) _
  · exact cell_alloc (cell_alloc (cell_alloc (cell_alloc h.x.x1 _) _) _) _
  · exact cell_alloc (cell_alloc (cell_alloc (cell_alloc h.x.x2 _) _) _) _
  · exact cell_alloc (cell_alloc (cell_alloc (cell_alloc h.x.x4 _) _) _) _
  · exact ((((h.x.r0.alloc _).alloc _).alloc _).alloc _).congr (fun j hj => by simp [idx, hj])
  · exact ((((h.x.r1.alloc _).alloc _).alloc _).alloc _).congr (fun j hj => by simp [idx, hj])
  · exact ((((h.x.r2.alloc _).alloc _).alloc _).alloc _).congr (fun j hj => by simp [dbl, hj])
  · have := at' ((wr.alloc (.cells rs 118)).alloc (.cells us 57)) ps 69 1 _ hp1
    rw [e2] at this; exact cell_alloc this _
  · have := at' ((wr.alloc (.cells rs 118)).alloc (.cells us 57)) ps 69 2 _ hp2
    rw [e2] at this; exact cell_alloc this _
  · intro r hr
    exact cell_alloc (cell_alloc (cell_alloc (at' wr rs 118 _ _ (hrs r hr)) _) _) _
  · have := at' (wr.alloc (.cells rs 118)) us 57 5 _ hu
    rw [e1] at this; exact cell_alloc (cell_alloc this _) _
  · intro j hj
    obtain ⟨a, b, c, d⟩ := msCells_at rl l1 j hj
    have a' := hc _ _ a; have b' := hc _ _ b; have c' := hc _ _ c; have d' := hc _ _ d
    rw [Addr.add_lit, Nat.zero_add] at a' b' c' d'
    exact ⟨cell_alloc (cell_alloc (cell_alloc (cell_alloc a' _) _) _) _, cell_alloc (cell_alloc (cell_alloc (cell_alloc b' _) _) _) _, cell_alloc (cell_alloc (cell_alloc (cell_alloc c' _) _) _) _, cell_alloc (cell_alloc (cell_alloc (cell_alloc d' _) _) _) _⟩
  · intro j _; exact hrl j
  · refine ⟨?_, ?_, ?_, ?_, ?_, ?_, ?_, ?_⟩ <;> simp only <;> omega
  · show wr.heap.size + 1 + 1 + 1 < _; simp

/-- Where things lie in the last loop. -/
def b_places (N B kk : Nat) (rl : Nat → Nat) (l1 : Nat) (ao2 : Option Addr) (l2 c2 : Nat) (hh : Nat → Bool) : Places :=
  { L := N + 1 + 1 + 1 + 1, B := B, bg := N + 1 + 1 + 1, pgx := N + 1 + 1 + 1 + 1 + 1 + 1 + 1, phx := N + 1 + 1 + 1 + 1 + 1 + 1 + 1 + 1, plx := N + 1 + 1 + 1 + 1 + 1 + 1, phh := N + 1 + 1 + 1 + 1 + 1, bz := N + 1 + 1 + 1 + 1 + 1 + 1 + 1 + 1 + 1, zl := 2 * kk, zc := 2 * kk, z := zz rl l1, ao := ao2, hl := l2, hc := c2, h := hh }

theorem env_built (q : XB) (w wr : World) (M : Nat) (rl : Nat → Nat) (l1 : Nat) (sem : Int) (rs us ps gs : Array Value) (h : MS q w M rl l1 l1 wr) (hkk : q.kk ≤ 1024)
    (ao2 : Option Addr) (l2 c2 : Nat) (hh : Nat → Bool) (hl2 : l2 ≤ 4096) (H2 : Came w.heap.size ao2 l2 (fun j => .bool (hh j)) w) (W1 wF : World)
    (hW : W1 = ((((((((wr.alloc (.cells rs 118)).alloc (.cells us 57)).alloc (.cells ps 69)).alloc (.cells gs 30)).alloc (.cells #[.slice none 0 0] 31)).alloc (.cells #[.slice ao2 l2 c2] 22)).alloc (.cells #[.pointer (some ⟨wr.heap.size + 1 + 1 + 1 + 1, 0, none⟩)] 35)).alloc
      (.cells #[.pointer (some ⟨wr.heap.size + 1 + 1 + 1, 0, none⟩)] 23)).alloc (.cells #[.func (.func 22) #[] #[.pointer (some ⟨wr.heap.size + 1 + 1 + 1 + 1 + 1 + 1, 0, none⟩), .pointer (some ⟨wr.heap.size + 1 + 1 + 1 + 1 + 1, 0, none⟩)]] 32))
    (hm : Mid ⟨wr.heap.size + 1 + 1 + 1, wr.heap.size + 1 + 1, q.bx, wr.heap.size, wr.heap.size + 1, M + 1, q.b0, q.b1, q.b2, q.b4, q.kk, l1, l1, sem, rl⟩ W1 (z2 rl l1) wF) :
    Env (b_places wr.heap.size wF.heap.size q.kk rl l1 ao2 l2 c2 hh) wF ∧ Log (wr.heap.size + 1 + 1 + 1 + 1) wF.heap.size [] wF ∧ Row wF M 4 q.kk (fun r => .bool (memb rl l1 r)) ∧ M < wF.heap.size ∧ M < wr.heap.size ∧ Below w.heap.size w wF := by
  have hs : W1.heap.size = wr.heap.size + 1 + 1 + 1 + 1 + 1 + 1 + 1 + 1 + 1 := by subst hW; simp
  have hMl := h.mem.lt
  have hwM := h.wlt
  have hb1 : Below wr.heap.size wr W1 := by
    subst hW
    refine ((((((((((Below.refl _ _).alloc (Nat.le_refl _) _).alloc ?_ _).alloc ?_ _).alloc ?_ _).alloc ?_ _).alloc ?_ _).alloc ?_ _).alloc ?_ _).alloc ?_ _) <;> simp <;> omega
  have hk := hm.kept
  simp only [hs] at hk
  have hsz := hk.size
  have rowF := hm.row
  have rl' := rowF.lt
  rw [hs] at rl'
  have hbF : Below w.heap.size w wF := h.x.bel.trans ((hb1.mono (by omega)).trans (hk.below (by omega) (by omega)))
  have H2' := H2.below hbF (Nat.le_refl _)
  have g7 := hm.g7
  refine ⟨?_, ?_, ?_, ?_, ?_, hbF⟩
  · refine ⟨?_, ?_, ?_, ?_, ?_, ?_, ?_, ?_, ?_, ?_, ?_, ?_, ?_, ?_, ?_, ?_, H2'.env ?_ ?_⟩ <;> simp only [b_places] <;> try omega
    · rw [hk.cell _ _ (by omega) (by omega)]; subst hW; simp [go_sem]
    · rw [hk.cell _ _ (by omega) (by omega)]; subst hW; simp [go_sem]
    · rw [hk.cell _ _ (by omega) (by omega)]; subst hW; simp [go_sem]
    · rw [hk.cell _ _ (by omega) (by omega)]; subst hW; simp [go_sem]
    · rw [hs] at g7; exact g7
    · intro j hj
      rw [hs] at rowF; exact rowF.cell j hj
  · refine ⟨.slice none 0 0, ?_, World.ownsRow_nil _ _ _ _⟩
    rw [hk.block _ (by omega) (by omega)]
    subst hW
    rw [Below.heap_alloc _ _ _ (by simp), Below.heap_alloc _ _ _ (by simp), Below.heap_alloc _ _ _ (by simp), Below.heap_alloc _ _ _ (by simp)]
    have h := heap_alloc_new ((((wr.alloc (.cells rs 118)).alloc (.cells us 57)).alloc (.cells ps 69)).alloc (.cells gs 30)) (.cells #[.slice none 0 0] 31)
    have e : ((((wr.alloc (.cells rs 118)).alloc (.cells us 57)).alloc (.cells ps 69)).alloc (.cells gs 30)).heap.size = wr.heap.size + 1 + 1 + 1 + 1 := by simp
    rw [e] at h
    exact h
  · exact h.mem.same ((hk.block M (by omega) (by omega)).trans (hb1.block M hMl))
  · omega
  · exact hMl

theorem zz_odd (rl : Nat → Nat) (m n : Nat) (h : n % 2 = 1) : zz rl m n < 0 := by unfold zz; rw [if_pos h]; decide
theorem zz_even (rl : Nat → Nat) (m n : Nat) (h : ¬ n % 2 = 1) : 0 ≤ zz rl m n ∧ (zz rl m n == 1) = memb rl m (n / 2) := by
  unfold zz; rw [if_neg h]
  cases memb rl m (n / 2) <;> simp

end Go.Proofs.Ybulkawna
