import Derived.Test.YbulkawnaBLawLay
namespace Go.Proofs.Ybulkawna
open Go.RowKit B
set_option linter.unusedVariables false

set_option maxHeartbeats 4000000 in
set_option maxRecDepth 100000 in
theorem b_law (k : Int) (hk : 0 ≤ k ∧ k ≤ 255) (ao1 : Option Addr) (l1 c1 : Nat) (A B C : Nat → Int) (hA : ∀ j, 0 ≤ A j ∧ A j ≤ 255) (hB : ∀ j, 0 ≤ B j ∧ B j ≤ 65535) (hC : ∀ j, 0 ≤ C j ∧ C j ≤ 65535)
    (tt : Int) (htt : 0 ≤ tt ∧ tt ≤ 65535) (ao2 : Option Addr) (l2 c2 : Nat) (Z : Nat → Int) (hZ : ∀ j, 0 ≤ Z j ∧ Z j ≤ 65535) (hl1 : (l1 : Int) ≤ 1024) (hl2 : (l2 : Int) ≤ 1024) (w : World)
    (H1 : BCame3 w.heap.size ao1 l1 (fun j => .int .u8 (A j)) (fun j => .int .u16 (B j)) (fun j => .int .u16 (C j)) w) (H2 : BCame w.heap.size ao2 l2 (fun j => .int .u16 (Z j)) w) :
    Calls Yba.prog 6 #[.int .u8 k, .slice ao1 l1 c1, .int .u16 tt, .slice ao2 l2 c2] w fun e w' => e = .returned (.bool true) ∧ Below w.heap.size w w' := by
  obtain ⟨n, en⟩ : ∃ n : Nat, 2 + k % 200 = (n : Int) := ⟨(2 + k % 200).toNat, by omega⟩
  have hn : 2 ≤ n ∧ n ≤ 201 := by omega
  have hd1 : decide (1024 < (l1 : Int)) = false := by simpa using hl1
  have hd2 : decide (1024 < (l2 : Int)) = false := by simpa using hl2
  have X := bhid (b_new w n hn)
  have HH1 := bhid H1
  have HH2 := bhid H2
  have HA := bhid hA
  have HB := bhid hB
  have HC := bhid hC
  have HZ := bhid hZ
  clear H1 H2 hA hB hC hZ
  go_enter Yba.func6, Yba.ntmps6
  go_wp2_with fail
  refine Calls.mono X.out ?_
  rintro e w1 ⟨bl, bn, bp, s, rfl, ne, ge, rl, rn, rp, fine, bel⟩
  obtain ⟨ok, M0⟩ := om_new ne hn rl rn rp
  have B0 := bel.alloc bel.size (.cells #[.slice (some ⟨bl, 0, none⟩) (n + 1) (n + 1), .slice (some ⟨bn, 0, none⟩) (n + 1) (n + 1), .slice (some ⟨bp, 0, none⟩) (n + 1) (n + 1), .slice none 0 0, .slice (some ⟨bl, 0, none⟩) (n + 1) (n + 1)] 75)
  have hbs := bel.size
  have OM0 := bhid M0
  have BB0 := bhid B0
  have F0 := bhid fine
  simp only [bsl]
  clear rl rn rp fine bel M0 B0 X
  go_wp2_with fail
  clear hd1 hd2 en
  generalize hqb : w1.heap.size = qb at *
  generalize w1.alloc (.cells #[.slice (some ⟨bl, 0, none⟩) (n + 1) (n + 1), .slice (some ⟨bn, 0, none⟩) (n + 1) (n + 1), .slice (some ⟨bp, 0, none⟩) (n + 1) (n + 1), .slice none 0 0, .slice (some ⟨bl, 0, none⟩) (n + 1) (n + 1)] 75) = w2 at *
  go_loopw [46] (fun i wr => ∃ (j : Nat) (xs : List Nat) (s : OL), j ≤ l1 ∧ i = .int .i64 j ∧ Hid (OM ⟨qb, bl, bn, bp, n⟩ s wr) ∧ Hid (Fine n xs s) ∧ Hid (Below w.heap.size w wr)) (fun i _ => l1 - (intOf i).toNat)
  case atStart => exact ⟨0, _, s, Nat.zero_le _, rfl, OM0, F0, BB0⟩
  case round =>
    clear OM0 F0 BB0
    obtain ⟨j, xs, s, hj, rfl, M, F, Bw⟩ := hrel
    have lts := M.out.lts
    have hsz := Bw.out.size
    simp only at lts
    by_cases hjl : j < l1
    · have hji : (j : Int) < l1 := by omega
      obtain ⟨b0, off, rfl, hb0, y0, y1, y2⟩ := (HH1.out.below Bw.out) j hjl
      have hAj := HA.out j
      have hBj := HB.out j
      have hCj := HC.out j
      simp only at y0 y1 y2
      generalize A j = vA at y0 hAj
      generalize B j = vB at y1 hBj
      generalize C j = vC at y2 hCj
      obtain ⟨ta, ea⟩ : ∃ a : Nat, vB % (n : Int) = (a : Int) := ⟨(vB % (n : Int)).toNat, by have := Int.emod_nonneg vB (show (n : Int) ≠ 0 by omega); omega⟩
      obtain ⟨tb, eb⟩ : ∃ a : Nat, vC % (n : Int) = (a : Int) := ⟨(vC % (n : Int)).toNat, by have := Int.emod_nonneg vC (show (n : Int) ≠ 0 by omega); omega⟩
      have hta : ta < n := by have := Int.emod_lt_of_pos vB (show (0 : Int) < n by omega); omega
      have htb : tb < n := by have := Int.emod_lt_of_pos vC (show (0 : Int) < n by omega); omega
      have hn0 : ((n : Int) == 0) = false := by simp; omega
      obtain ⟨z1, hz1⟩ : ∃ o, Obj.cells #[.int .u8 vA, .int .u16 vB, .int .u16 vC] 78 (0, 0) = o := ⟨_, rfl⟩
      by_cases hab : ta = tb
      · have hab' : ((ta : Int) == (tb : Int)) = true := by simp; omega
        have M' := bhid (M.out.alloc z1)
        have B' := bhid (Bw.out.alloc hsz z1)
        rw [← hz1] at M' B'
        clear M Bw hz1
        go_wp2_with fail
        exact ⟨⟨j + 1, xs, s, by omega, by go_num, M', F, B'⟩, by simp [intOf]; omega⟩
      · have hab' : ((ta : Int) == (tb : Int)) = false := by simp; omega
        obtain ⟨p0, q0, hx⟩ := List.append_of_mem (F.out.all ta hta)
        have F1 := F.out
        rw [hx] at F1
        have hr1 : ([tb] : List Nat).Nodup := by simp
        have hr2 : ∀ v ∈ [tb], v < n := by simpa using htb
        have hr3 : ta ∉ [tb] := by simpa using hab
        have hsz1 : (wr.alloc z1).heap.size = wr.heap.size + 1 := by simp
        have M1 := (M.out.alloc z1).alloc (.cells #[.int .i64 (tb : Int)] 3)
        have B1 := (Bw.out.alloc hsz z1).alloc (by rw [hsz1]; omega) (.cells #[.int .i64 (tb : Int)] 3)
        have R1 := run_one (wr.alloc z1) tb
        rw [hsz1] at R1
        have hbr : wr.heap.size + 1 ≠ bl ∧ wr.heap.size + 1 ≠ bn ∧ wr.heap.size + 1 ≠ bp := ⟨by omega, by omega, by omega⟩
        have hsz2 : w.heap.size ≤ ((wr.alloc z1).alloc (.cells #[.int .i64 (tb : Int)] 3)).heap.size := by simp; omega
        by_cases hop : vA % 2 = 0
        case' pos =>
          have hop' : ((vA % 2 : Int) == 0) = true := by simp; omega
          have X := bhid (b_behind ⟨qb, bl, bn, bp, n⟩ s _ ok M1 p0 q0 [tb] ta (wr.heap.size + 1) 1 F1 hr1 hr2 hr3 R1 hbr)
        case' neg =>
          have hop' : ((vA % 2 : Int) == 0) = false := by simp; omega
          have X := bhid (b_before ⟨qb, bl, bn, bp, n⟩ s _ ok M1 p0 q0 [tb] ta (wr.heap.size + 1) 1 F1 hr1 hr2 hr3 R1 hbr)
        all_goals
          have BB1 := bhid B1
          have HSZ := bhid hsz2
          rw [← hz1] at X BB1 HSZ
          clear M Bw hz1 M1 B1 R1 F1 hr1 hr2 hr3 hx F hsz2 hsz1
          go_wp2_with fail
          refine Calls.mono X.out ?_
          rintro e w3 ⟨r, s', rfl, _, _, M3, F3, K3'⟩
          have MM := bhid M3
          have FF := bhid F3
          have BB := bhid (K3'.below' BB1.out ge.1 ge.2.1 ge.2.2 HSZ.out)
          clear M3 F3 K3' X BB1 HSZ
          go_wp2_with fail
          exact ⟨⟨j + 1, _, s', by omega, by go_num, MM, FF, BB⟩, by simp [intOf]; omega⟩
    · obtain rfl : j = l1 := by omega
      have X := bhid (b_walk ⟨qb, bl, bn, bp, n⟩ s wr ok M.out xs F.out)
      obtain ⟨t, et⟩ : ∃ a : Nat, tt % (n : Int) = (a : Int) := ⟨(tt % (n : Int)).toNat, by have := Int.emod_nonneg tt (show (n : Int) ≠ 0 by omega); omega⟩
      have ht : t < n := by have := Int.emod_lt_of_pos tt (show (0 : Int) < n by omega); omega
      have hn0 : ((n : Int) == 0) = false := by simp; omega
      have hm1 := bm_22 n hn.2
      have hm2 := make_room n hn.2
      go_wp2_with fail
      refine Calls.mono X.out ?_
      rintro e w3 ⟨rfl, Bf, Bl⟩
      obtain ⟨w4, hw4⟩ : ∃ w4, w3.alloc (.cells (madeCells #[.bool false] n) 4) = w4 := ⟨_, rfl⟩
      obtain ⟨w5, hw5⟩ : ∃ w5, w4.alloc (.cells (madeCells #[.int .i64 0] n) 3) = w5 := ⟨_, rfl⟩
      have hs4 : w4.heap.size = w3.heap.size + 1 := by rw [← hw4]; simp
      have hs3 := Bl.size
      have lt3 := Bf.lt
      have M3 := M.out.below Bl
      have B3 := Bw.out.trans (Bl.mono hsz)
      have M5 := (M3.alloc (.cells (madeCells #[.bool false] n) 4)).alloc (.cells (madeCells #[.int .i64 0] n) 3)
      have B5 := (B3.alloc (by omega) (.cells (madeCells #[.bool false] n) 4)).alloc (by rw [hw4]; omega) (.cells (madeCells #[.int .i64 0] n) 3)
      have Bf5 := (Bf.alloc (.cells (madeCells #[.bool false] n) 4)).alloc (.cells (madeCells #[.int .i64 0] n) 3)
      have Rt5 := (Row.made w3 (.bool false) rfl n 4).alloc (.cells (madeCells #[.int .i64 0] n) 3)
      have Br5 := Buf.made w4 n
      rw [hw4, hw5] at M5 B5 Bf5
      rw [show Value.cells (.bool false) = #[.bool false] from rfl, hw4, hw5] at Rt5
      rw [hw5, hs4] at Br5
      have HM5 := bhid M5
      have HB5 := bhid B5
      have HBf5 := bhid Bf5
      have HRt5 : Hid (Row w5 w3.heap.size 4 n (fun v => .bool (([] : List Nat).contains v))) := Rt5.congr (fun j _ => rfl)
      have HBr5 := bhid Br5
      clear M5 B5 Bf5 Rt5 Br5 M3 B3 X M Bw Bl Bf
      go_wp2_with fail
      clear hw4 hw5 hm1
      simp only [et]
      clear et
      generalize hbo : wr.heap.size = bo at *
      generalize hbt : w3.heap.size = bt at *
      go_loopw [20, 93] (fun r i wr => ∃ (j : Nat) (rs : List Nat), j ≤ l2 ∧ r = .slice (some ⟨bt + 1, 0, none⟩) rs.length n ∧ i = .int .i64 j ∧ Hid (Buf wr (bt + 1) n rs) ∧ Hid (Row wr bt 4 n (fun v => .bool (rs.contains v))) ∧ Hid (rs.Nodup ∧ (∀ v ∈ rs, v < n) ∧ t ∉ rs) ∧ Hid (OM ⟨qb, bl, bn, bp, n⟩ s wr) ∧ Hid (Buf wr bo n xs) ∧ Hid (Below w.heap.size w wr)) (fun _ i _ => l2 - (intOf i).toNat)
      case atStart => exact ⟨0, [], Nat.zero_le _, rfl, rfl, HBr5, HRt5, ⟨by simp, by simp, by simp⟩, HM5, HBf5, HB5⟩
      case round =>
        clear HBr5 HRt5 HM5 HBf5 HB5
        obtain ⟨j, rs, hj, rfl, rfl, Br, Rt, hrs, M, Bf, Bw⟩ := hrel
        have hsw := Bw.out.size
        have ltr := Br.out.lt
        by_cases hjl : j < l2
        · have hji : (j : Int) < l2 := by omega
          obtain ⟨b0, off, rfl, hb0, y0⟩ := (HH2.out.below Bw.out) j hjl
          have hZj := HZ.out j
          simp only at y0
          generalize Z j = vZ at y0 hZj
          obtain ⟨v, ev⟩ : ∃ a : Nat, vZ % (n : Int) = (a : Int) := ⟨(vZ % (n : Int)).toNat, by have := Int.emod_nonneg vZ (show (n : Int) ≠ 0 by omega); omega⟩
          have hv : v < n := by have := Int.emod_lt_of_pos vZ (show (0 : Int) < n by omega); omega
          have hvi : (v : Int) < n := by omega
          by_cases hvt : v = t
          · have hvt' : ((v : Int) != (t : Int)) = false := by simp; omega
            go_wp2_with fail
            exact ⟨⟨j + 1, rs, by omega, rfl, by go_num, Br, Rt, hrs, M, Bf, Bw⟩, by simp [intOf]; omega⟩
          · have hvt' : ((v : Int) != (t : Int)) = true := by simp; omega
            have y1 := Rt.out.cell v hv
            by_cases hvr : v ∈ rs
            · have hc : rs.contains v = true := by simpa using hvr
              simp only [hc] at y1
              clear hc
              go_wp2_with fail
              exact ⟨⟨j + 1, rs, by omega, rfl, by go_num, Br, Rt, hrs, M, Bf, Bw⟩, by simp [intOf]; omega⟩
            · have hc : rs.contains v = false := by simpa using hvr
              simp only [hc] at y1
              clear hc
              have fr := Rt.out.free
              have hrl : rs.length + 1 + 1 ≤ n := by
                have := len_le n (t :: v :: rs) (by
                  rw [List.nodup_cons, List.nodup_cons]
                  exact ⟨by simp; exact ⟨fun e => hvt e.symm, hrs.out.2.2⟩, hvr, hrs.out.1⟩) (by
                  intro u hu
                  simp at hu
                  rcases hu with r | r | r
                  · omega
                  · omega
                  · exact hrs.out.2.1 u r)
                simp at this
                omega
              obtain ⟨w6, hw6⟩ : ∃ w6, wr.setCell ⟨bt, v, none⟩ (.bool true) = w6 := ⟨_, rfl⟩
              have o6 : Only bt wr w6 := by rw [← hw6]; exact (Only.refl bt wr).set v _
              have M6 := bhid (o6.om M.out (by simp; omega) (by simp; omega) (by simp; omega) (by simp; omega))
              have Br6 := bhid (p := Buf w6 (bt + 1) n rs) (Br.out.same (o6.block _ (by omega)))
              have Bf6 := bhid (p := Buf w6 bo n xs) (Bf.out.same (o6.block _ (by omega)))
              have Bw6 := bhid (o6.below Bw.out (by omega))
              have Rt6 : Hid (Row w6 bt 4 n (fun u => .bool ((rs ++ [v]).contains u))) := by
                show Row _ _ _ _ _
                rw [← hw6]
                refine (Rt.out.set v (.bool true)).congr (fun u _ => ?_)
                by_cases e : u = v
                · rw [e, upd_same]; simp
                · rw [upd_other _ _ _ _ e]; simp [e]
              have hrs' : Hid ((rs ++ [v]).Nodup ∧ (∀ u ∈ rs ++ [v], u < n) ∧ t ∉ rs ++ [v]) := by
                refine ⟨?_, ?_, ?_⟩
                · rw [List.nodup_append]
                  refine ⟨hrs.out.1, by simp, fun x hx y hy e => ?_⟩
                  simp at hy
                  exact hvr (by rw [← hy, ← e]; exact hx)
                · intro u hu
                  simp at hu
                  rcases hu with r | r
                  · exact hrs.out.2.1 u r
                  · omega
                · simp
                  exact ⟨hrs.out.2.2, fun e => hvt e.symm⟩
              have hs6 := o6.size
              have hsw6 : w.heap.size ≤ w6.heap.size := by omega
              clear o6 M Br Bf Bw Rt hrs hs6
              go_wp2_with (at_builtin; refine wpList_push _ rfl (.tmp 114) (.tmp 116) rfl (bt + 1) n w6.heap.size 1 rs.length 1 rs [v] rfl rfl rfl rfl (Br6.out.alloc _) ?c1 ?c2 ?_)
              case c1 => exact run_one w6 v
              case c2 => omega
              intro w7 Br7 o7
              have M7 := bhid (o7.om (M6.out.alloc _) (by simp; omega) (by simp; omega) (by simp; omega) (by simp; omega))
              have Bf7 := bhid (p := Buf w7 bo n xs) ((Bf6.out.alloc _).same (o7.block _ (by omega)))
              have Rt7 := bhid (o7.row (Rt6.out.alloc _) (by omega))
              have Bw7 := bhid (o7.below (Bw6.out.alloc hsw6 _) (by omega))
              have HBr7 := bhid Br7
              clear Br7 o7 M6 Br6 Bf6 Bw6 Rt6
              go_wp2_with fail
              exact ⟨⟨j + 1, rs ++ [v], by omega, by rw [List.length_append]; rfl, by go_num, HBr7, Rt7, hrs', M7, Bf7, Bw7⟩, by simp [intOf]; omega⟩
        · obtain rfl : j = l2 := by omega
          obtain ⟨p0, q0, hx⟩ := List.append_of_mem (F.out.all t ht)
          have hxl : Hid (xs.length = n) := F.out.len
          have F1 := F.out
          rw [hx] at F1
          have hpl : Hid ((before p0 q0 rs t).length = n) := before_len F1 hrs.out.1 hrs.out.2.1 hrs.out.2.2
          have hpp : Hid (xs.flatMap (put1 rs t) = before p0 q0 rs t) := by show _ = _; rw [hx]; exact before_put F1 hrs.out.2.2
          have HF1 := bhid F1
          obtain ⟨w8, hw8⟩ : ∃ w8, wr.alloc (.cells (madeCells #[.int .i64 0] n) 3) = w8 := ⟨_, rfl⟩
          have B8 := Buf.made wr n
          have L8 := (Below.refl wr.heap.size wr).alloc (Nat.le_refl _) (.cells (madeCells #[.int .i64 0] n) 3)
          rw [hw8] at B8 L8
          have HB8 := bhid B8
          have HL8 := bhid L8
          clear B8 L8 F1 hx
          go_wp2_with fail
          clear hw8 hm2
          generalize hbe : wr.heap.size = be at *
          go_loopw [24, 123] (fun e i wq => ∃ j : Nat, j ≤ n ∧ e = .slice (some ⟨be, 0, none⟩) ((xs.take j).flatMap (put1 rs t)).length n ∧ i = .int .i64 j ∧ Hid (Buf wq be n ((xs.take j).flatMap (put1 rs t))) ∧ Hid (Below be wr wq)) (fun _ i _ => n - (intOf i).toNat)
          case atStart => exact ⟨0, Nat.zero_le _, rfl, rfl, HB8, HL8⟩
          case round =>
            clear HB8 HL8
            obtain ⟨i, hi, rfl, rfl, Be, Lq⟩ := hrel
            obtain ⟨P, hP⟩ : ∃ P, (xs.take i).flatMap (put1 rs t) = P := ⟨_, rfl⟩
            have BeP := bhid Be.out
            rw [hP] at BeP
            have hsq : be ≤ wr.heap.size := by have := Lq.out.size; omega
            have Mq := M.out.below (by rw [hbe]; exact Lq.out)
            have Bfq := Bf.out.below (by rw [hbe]; exact Lq.out)
            have Brq := Br.out.below (by rw [hbe]; exact Lq.out)
            have Rtq := Rt.out.same (Lq.out.block bt (by omega))
            rw [hP]
            by_cases hin : i < n
            · have hii : (i : Int) < n := by omega
              obtain ⟨v, hv⟩ : ∃ v, xs[i]? = some v := ⟨xs[i]'(by rw [hxl.out]; exact hin), List.getElem?_eq_getElem _⟩
              have hvn : v < n := F.out.good.ring.lt v (List.mem_of_getElem? hv)
              have hvi : (v : Int) < n := by omega
              have y0 := Bfq.run i v hv
              have y1 := Rtq.cell v hvn
              have hnx := put1_prefix rs t xs i v hv
              have hle := put1_len rs t xs (i + 1)
              rw [hpp.out, hpl.out, hnx, hP] at hle
              rw [hP] at hnx
              have HNX := bhid hnx
              have HBr := bhid Brq.run
              clear Be Mq Bfq Brq Rtq hP hv hnx
              by_cases hvr : v ∈ rs
              · have hc : rs.contains v = true := by simpa using hvr
                simp only [hc] at y1
                have hp1 : put1 rs t v = [] := by unfold put1; rw [if_pos hvr]
                have hE : Hid ((xs.take (i + 1)).flatMap (put1 rs t) = P) := by have := HNX.out; rw [hp1, List.append_nil] at this; exact this
                clear hc hp1 HNX hle
                go_wp2_with fail
                exact ⟨⟨i + 1, by omega, by rw [hE.out], by go_num, by rw [hE.out]; exact BeP, Lq⟩, by simp [intOf]; omega⟩
              · have hc : rs.contains v = false := by simpa using hvr
                simp only [hc] at y1
                clear hc
                by_cases hvt : v = t
                · have hvt' : ((v : Int) == (t : Int)) = true := by simp; omega
                  have hp1 : put1 rs t v = rs ++ [v] := by unfold put1; rw [if_neg hvr, if_pos hvt]
                  have hE : Hid ((xs.take (i + 1)).flatMap (put1 rs t) = P ++ rs ++ [v]) := by have := HNX.out; rw [hp1, ← List.append_assoc] at this; exact this
                  rw [hp1] at hle
                  simp at hle
                  clear hp1 HNX hvt
                  go_wp2_with (at_builtin; refine wpList_push _ rfl (.tmp 134) (.tmp 135) rfl be n (bt + 1) n P.length rs.length P rs rfl rfl rfl rfl BeP.out HBr.out ?c2 ?_)
                  case c2 => omega
                  intro w9 B9 o9
                  have L9 := bhid (o9.below Lq.out (Nat.le_refl _))
                  have HB9 := bhid B9
                  have hs9 : be ≤ w9.heap.size := by rw [o9.size]; omega
                  clear B9 o9 BeP Lq hsq
                  go_wp2_with (at_builtin; refine wpList_push _ rfl (.tmp 137) (.tmp 139) rfl be n w9.heap.size 1 (P.length + rs.length) 1 (P ++ rs) [v] rfl rfl ?c0 rfl (HB9.out.alloc _) ?c1 ?c2 ?_)
                  case c0 => simp
                  case c1 => exact run_one w9 v
                  case c2 => omega
                  intro w10 B10 o10
                  have L10 := bhid (o10.below (L9.out.alloc hs9 _) (Nat.le_refl _))
                  have HB10 := bhid B10
                  clear B10 o10 HB9 L9
                  go_wp2_with fail
                  exact ⟨⟨i + 1, by omega, by rw [hE.out]; simp; omega, by go_num, by rw [hE.out, List.append_assoc]; exact HB10, L10⟩, by simp [intOf]; omega⟩
                · have hvt' : ((v : Int) == (t : Int)) = false := by simp; omega
                  have hp1 : put1 rs t v = [v] := by unfold put1; rw [if_neg hvr, if_neg hvt]
                  have hE : Hid ((xs.take (i + 1)).flatMap (put1 rs t) = P ++ [v]) := by have := HNX.out; rw [hp1] at this; exact this
                  rw [hp1] at hle
                  simp at hle
                  clear hp1 HNX
                  go_wp2_with (at_builtin; refine wpList_push _ rfl (.tmp 137) (.tmp 139) rfl be n wr.heap.size 1 P.length 1 P [v] rfl rfl rfl rfl (BeP.out.alloc _) ?c1 ?c2 ?_)
                  case c1 => exact run_one wr v
                  case c2 => omega
                  intro w10 B10 o10
                  have L10 := bhid (o10.below (Lq.out.alloc hsq _) (Nat.le_refl _))
                  have HB10 := bhid B10
                  clear B10 o10 BeP Lq
                  go_wp2_with fail
                  exact ⟨⟨i + 1, by omega, by rw [hE.out]; simp, by go_num, by rw [hE.out]; exact HB10, L10⟩, by simp [intOf]; omega⟩
            · obtain rfl : i = n := by omega
              rw [List.take_of_length_le (by rw [hxl.out]; exact Nat.le_refl _), hpp.out] at hP
              subst hP
              have X := bhid (b_before ⟨qb, bl, bn, bp, i⟩ s wr ok Mq p0 q0 rs t (bt + 1) i HF1.out hrs.out.1 hrs.out.2.1 hrs.out.2.2 Brq.run ⟨by simp; omega, by simp; omega, by simp; omega⟩)
              have Bwq := Bw.out.trans (Lq.out.mono (B' := w.heap.size) (by omega))
              have HBwq := bhid Bwq
              have hsw2 : w.heap.size ≤ wr.heap.size := Bwq.size
              rw [hpl.out]
              clear Be Mq Bfq Brq Rtq Lq Bwq
              go_wp2_with fail
              refine Calls.mono X.out ?_
              rintro e w9 ⟨r, s', rfl, hr0, hrr, M9, F9, K9⟩
              have X2 := bhid (b_walk ⟨qb, bl, bn, bp, i⟩ s' w9 ok M9 _ F9)
              have Be9 := bhid (K9.buf BeP.out (by simp; omega) (by simp; omega) (by simp; omega))
              have Bw9 := bhid (K9.below' HBwq.out ge.1 ge.2.1 ge.2.2 hsw2)
              have hs9 := K9.size
              have HR0 := bhid hr0
              clear M9 F9 K9 X BeP HBwq hr0
              go_wp2_with fail
              refine Calls.mono X2.out ?_
              rintro e w10 ⟨rfl, Bn, Bl⟩
              have Be10 := bhid (Be9.out.below Bl)
              have Bw10 := bhid (Bw9.out.trans (Bl.mono (B' := w.heap.size) (by omega)))
              have HBn := bhid Bn
              have hnn : ((i : Int) != (i : Int)) = false := by simp
              clear Bn Bl X2 Be9 Bw9
              go_wp2_with fail
              generalize hbn2 : w9.heap.size = bn2 at *
              go_loopw [159] (fun c wq => ∃ j : Nat, j ≤ i ∧ c = .int .i64 j ∧ Hid (Buf wq bn2 i (before p0 q0 rs t)) ∧ Hid (Buf wq be i (before p0 q0 rs t)) ∧ Hid (Below w.heap.size w wq)) (fun c _ => i - (intOf c).toNat)
              case atStart => exact ⟨0, Nat.zero_le _, rfl, HBn, Be10, Bw10⟩
              case round =>
                clear HBn Be10 Bw10
                obtain ⟨m, hm, rfl, B1, B2, B3⟩ := hrel
                by_cases hmi : m < i
                · have hmi' : (m : Int) < i := by omega
                  obtain ⟨v, hv⟩ : ∃ v, (before p0 q0 rs t)[m]? = some v := ⟨(before p0 q0 rs t)[m]'(by rw [hpl.out]; exact hmi), List.getElem?_eq_getElem _⟩
                  have y0 := B1.out.run m v hv
                  have y1 := B2.out.run m v hv
                  have hvv : ((v : Int) != (v : Int)) = false := by simp
                  clear hv
                  go_wp2_with fail
                  go_quiet (fail)
                  have C1 := bhid (p := Buf (wr.drewN nq) bn2 i (before p0 q0 rs t)) (B1.out.same rfl)
                  have C2 := bhid (p := Buf (wr.drewN nq) be i (before p0 q0 rs t)) (B2.out.same rfl)
                  have C3 := bhid (p := Below w.heap.size w (wr.drewN nq)) ⟨B3.out.os, B3.out.tape, B3.out.output, B3.out.size, B3.out.block⟩
                  clear B1 B2 B3
                  go_wp2_with fail
                  exact ⟨⟨m + 1, by omega, by go_num, C1, C2, C3⟩, by simp [intOf]; omega⟩
                · obtain rfl : m = i := by omega
                  by_cases hz : rs = []
                  · have hz1 : ((rs.length : Int) == 0) = true := by rw [hz]; rfl
                    have hz2 : ((r : Int) == 0) = true := by rw [HR0.out hz]; rfl
                    clear hz hrr
                    go_wp2_with fail
                    go_ret
                    exact ⟨rfl, B3.out⟩
                  · have hz1 : ((rs.length : Int) == 0) = false := by
                      have : rs.length ≠ 0 := fun e => hz (List.length_eq_zero_iff.1 e)
                      simp; omega
                    have hz2 : decide ((rs.length : Int) ≤ (r : Int)) = true := by simp; omega
                    clear hz
                    go_wp2_with fail
                    go_ret
                    exact ⟨rfl, B3.out⟩

end Go.Proofs.Ybulkawna
