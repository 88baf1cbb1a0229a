import Derived.Test.YbulkawnaARead
namespace Go.Proofs.Ybulkawna
open Go.RowKit
set_option linter.unusedVariables false

theorem hid {p : Prop} (h : p) : Hid p := h

/-- Where the things lie, and what they hold. -/
structure Places where
  L : Nat
  B : Nat
  bg : Nat
  pgx : Nat
  phx : Nat
  plx : Nat
  phh : Nat
  bz : Nat
  zl : Nat
  zc : Nat
  z : Nat → Int
  ao : Option Addr
  hl : Nat
  hc : Nat
  h : Nat → Bool

structure Env (p : Places) (w : World) : Prop where
  hL : p.L < p.B
  hB : p.B ≤ w.heap.size
  hbg : p.bg < p.B ∧ p.bg ≠ p.L
  hpgx : p.pgx < p.B ∧ p.pgx ≠ p.L
  hphx : p.phx < p.B ∧ p.phx ≠ p.L
  hplx : p.plx < p.B ∧ p.plx ≠ p.L
  hphh : p.phh < p.B ∧ p.phh ≠ p.L
  hbz : p.bz < p.B ∧ p.bz ≠ p.L
  hzl : p.zl ≤ 8192
  hhl : p.hl ≤ 8192
  cgx : w.cell? ⟨p.pgx, 0, none⟩ = some (.pointer (some ⟨p.bg, 0, none⟩))
  chx : w.cell? ⟨p.phx, 0, none⟩ = some (.func (.func 22) #[] #[.pointer (some ⟨p.plx, 0, none⟩), .pointer (some ⟨p.phh, 0, none⟩)])
  clx : w.cell? ⟨p.plx, 0, none⟩ = some (.pointer (some ⟨p.L, 0, none⟩))
  chh : w.cell? ⟨p.phh, 0, none⟩ = some (.slice p.ao p.hl p.hc)
  c7 : w.cell? ⟨p.bg, 7, none⟩ = some (.slice (some ⟨p.bz, 0, none⟩) p.zl p.zc)
  cz : ∀ j, j < p.zl → w.cell? ⟨p.bz, j, none⟩ = some (.int .i8 (p.z j))
  ch : ∀ j, j < p.hl → ∃ b off, p.ao = some ⟨b, off, none⟩ ∧ b < p.B ∧ b ≠ p.L ∧ w.cell? ⟨b, off + j, none⟩ = some (.bool (p.h j))

theorem Env.kept {p : Places} {w w' : World} (e : Env p w) (k : Kept p.L p.B w w') : Env p w' where
  hL := e.hL
  hB := Nat.le_trans e.hB k.size
  hbg := e.hbg
  hpgx := e.hpgx
  hphx := e.hphx
  hplx := e.hplx
  hphh := e.hphh
  hbz := e.hbz
  hzl := e.hzl
  hhl := e.hhl
  cgx := (k.cell _ _ e.hpgx.1 e.hpgx.2).trans e.cgx
  chx := (k.cell _ _ e.hphx.1 e.hphx.2).trans e.chx
  clx := (k.cell _ _ e.hplx.1 e.hplx.2).trans e.clx
  chh := (k.cell _ _ e.hphh.1 e.hphh.2).trans e.chh
  c7 := (k.cell _ _ e.hbg.1 e.hbg.2).trans e.c7
  cz := fun j hj => (k.cell _ _ e.hbz.1 e.hbz.2).trans (e.cz j hj)
  ch := fun j hj => by
    obtain ⟨b, off, h1, h2, h3, h4⟩ := e.ch j hj
    exact ⟨b, off, h1, h2, h3, (k.cell _ _ h2 h3).trans h4⟩

/-- What the closure over h answers. -/
def Places.hv (p : Places) (n : Nat) : Bool := decide (n < p.hl) && p.h n

theorem a_holds (p : Places) (n : Nat) (xs : List Int) (w : World) (hxs : xs.length ≤ 8192) (e : Env p w) (hlog : Log p.L p.B xs w) :
    Calls Yba.prog 22 #[.int .i64 n, .pointer (some ⟨p.plx, 0, none⟩), .pointer (some ⟨p.phh, 0, none⟩)] w fun e w' =>
      e = .returned (.bool (p.hv n)) ∧ Log p.L p.B (xs ++ [(n : Int)]) w' ∧ Kept p.L p.B w w' := by
  by_cases h : n < p.hl
  · obtain ⟨b, off, h1, h2, h3, h4⟩ := e.ch n h
    have hv : p.hv n = p.h n := by simp [Places.hv, h]
    rw [hv]
    have c := e.chh
    rw [h1] at c
    exact a_holds_in n p.plx p.phh p.L p.B b off p.hl p.hc (p.h n) xs w e.hL e.hB hxs e.hplx.1 e.hplx.2 e.hphh.1 e.hphh.2 h2 h3 (by omega) e.hhl e.clx c h4 hlog
  · have hv : p.hv n = false := by simp [Places.hv, h]
    rw [hv]
    exact a_holds_out n p.plx p.phh p.L p.B p.hl p.hc p.ao xs w e.hL e.hB hxs e.hplx.1 e.hplx.2 e.hphh.1 e.hphh.2 (by omega) e.hhl e.clx e.chh hlog

theorem a_hv (p : Places) (n : Nat) (w : World) (e : Env p w) :
    Calls Yba.prog 11 #[.slice p.ao p.hl p.hc, .int .i64 n] w fun e w' => e = .returned (.bool (p.hv n)) ∧ w' = w := by
  by_cases h : n < p.hl
  · obtain ⟨b, off, h1, h2, h3, h4⟩ := e.ch n h
    have hv : p.hv n = p.h n := by simp [Places.hv, h]
    rw [hv, h1]
    exact a_hv_in n b off p.hl p.hc (p.h n) w (by omega) e.hhl h4
  · have hv : p.hv n = false := by simp [Places.hv, h]
    rw [hv]
    exact a_hv_out n p.hl p.hc p.ao w (by omega) e.hhl

set_option maxHeartbeats 400000 in
/-- The reading of an atom that is listed negative: holds is called. -/
theorem a_call_neg (p : Places) (n : Nat) (xs : List Int) (w : World) (hxs : xs.length ≤ 8192) (e : Env p w) (hlog : Log p.L p.B xs w) (hn : n < p.zl) (hz : p.z n < 0) :
    Calls Yba.prog 20 #[.int .i64 n, .pointer (some ⟨p.pgx, 0, none⟩), .pointer (some ⟨p.phx, 0, none⟩)] w fun e w' =>
      e = .returned (.bool (p.hv n)) ∧ Log p.L p.B (xs ++ [(n : Int)]) w' ∧ Kept p.L p.B w w' := by
  have k1 := e.cgx
  have k2 := e.chx
  have H1 := a_inSlot p.bg p.bz 0 p.zl p.zc n (p.z n) w (by omega) e.hzl e.c7 (by simpa using e.cz n hn)
  have hd : decide (p.z n < 0) = true := by simpa using hz
  rw [hd] at H1
  have H2 := a_holds p n xs w hxs e hlog
  have E := hid H2
  have E1 := hid H1
  clear H2 hlog e hz H1 hd
  go_enter Yba.func20, Yba.ntmps20
  go_wp2_with fail
  refine Calls.mono E1.out ?_
  rintro e w' ⟨rfl, rfl⟩
  go_wp2_with fail
  refine Calls.mono E.out ?_
  rintro e w1 ⟨rfl, h1, h2⟩
  have G1 := hid h1
  have G2 := hid h2
  clear h1 h2
  go_wp2
  go_ret
  exact ⟨rfl, G1.out, G2.out⟩

set_option maxHeartbeats 400000 in
/-- The reading of an atom that is listed 0 or more. -/
theorem a_call_pos (p : Places) (n : Nat) (w : World) (e : Env p w) (hn : n < p.zl) (hz : 0 ≤ p.z n) :
    Calls Yba.prog 20 #[.int .i64 n, .pointer (some ⟨p.pgx, 0, none⟩), .pointer (some ⟨p.phx, 0, none⟩)] w fun e w' =>
      e = .returned (.bool (p.z n == 1)) ∧ w' = w := by
  have k1 := e.cgx
  have k3 := e.c7
  have k4 := e.cz n hn
  have hn1 : (n : Int) < p.zl := by omega
  have hzl := e.hzl
  have H1 := a_inSlot p.bg p.bz 0 p.zl p.zc n (p.z n) w (by omega) e.hzl e.c7 (by simpa using e.cz n hn)
  have hd : decide (p.z n < 0) = false := by simpa using hz
  rw [hd] at H1
  have E1 := hid H1
  clear e hz H1 hd
  go_enter Yba.func20, Yba.ntmps20
  go_wp2_with fail
  refine Calls.mono E1.out ?_
  rintro e w' ⟨rfl, rfl⟩
  go_wp2
  go_ret
  exact ⟨by simp, rfl⟩

end Go.Proofs.Ybulkawna
