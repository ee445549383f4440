/- The walk of the law FnDiffsParted. -/
import Derived.Test.YtnhnlodmkbiiiaaDoorD15
namespace Go.Proofs.YtnhnlodmkbiiiaaDoor.HandDif
open Go Go.RowKit Go.Proofs.YtnhnlodmkbiiiaaDoorL Go.Proofs.YtnhnlodmkbiiiaaDoorW.PrintWords Go.Proofs.YtnhnlodmkbiiiaaDoorW.PrintLast Go.Proofs.YtnhnlodmkbiiiaaDoorW.PrintMore Go.Proofs.YtnhnlodmkbiiiaaDoor.PDif
attribute [local go_sem] max2_int min2_int max_two min_two max_three min_three max_four min_four
set_option linter.unusedVariables false
set_option linter.unusedSimpArgs false
theorem info9s : (Tryd.prog.info? 9).map (fun i => (i.zero, i.size, i.bytes)) = some (some (.string ⟨#[]⟩), 1, 16) := by kernel_rfl
theorem at_F78 {w : World} {ok : Nat → Prop} {A : Option Addr} {xs : List S78} (h : Kd.F k78 w ok A xs.length xs) (i : Int) (j : Nat) (hij : i = (j : Int)) (hj : j < xs.length) : ∃ ad A2 c2 A3 c3, A = some ad ∧ w.cell? (ad.add (i.toNat * 4)) = some (.int .i64 xs[j].f0) ∧ w.cell? ⟨(ad.add (i.toNat * 4)).block, (ad.add (i.toNat * 4)).off + 1, none⟩ = some (.string xs[j].f1) ∧ w.cell? ⟨(ad.add (i.toNat * 4)).block, (ad.add (i.toNat * 4)).off + 2, none⟩ = some (.slice A2 xs[j].f2.length c2) ∧ w.cell? ⟨(ad.add (i.toNat * 4)).block, (ad.add (i.toNat * 4)).off + 3, none⟩ = some (.slice A3 xs[j].f3.length c3) ∧ Kd.FK k78 w ok xs[j] [.int .i64 xs[j].f0, .string xs[j].f1, .slice A2 xs[j].f2.length c2, .slice A3 xs[j].f3.length c3] := by
  obtain ⟨ad, c, e, _, hK, hc0⟩ := Kd.F_get h z78 i (by omega) (by omega)
  have hc : ∀ j u, c[j]? = some u → w.cell? (ad.add (i.toNat * 4 + j)) = some u := hc0.1
  have ex : xs.getD i.toNat z78 = xs[j] := by rw [hij, Int.toNat_natCast, List.getD_eq_getElem?_getD, List.getElem?_eq_getElem hj]; rfl
  rw [ex] at hK
  obtain ⟨A2, c2, A3, c3, rfl, _⟩ := k78_openF hK
  exact ⟨ad, A2, c2, A3, c3, e, hc 0 _ rfl, by rw [← add_field _ _ 1 (by omega)]; exact hc 1 _ rfl, by rw [← add_field _ _ 2 (by omega)]; exact hc 2 _ rfl, by rw [← add_field _ _ 3 (by omega)]; exact hc 3 _ rfl, hK⟩
set_option maxHeartbeats 32000000 in
set_option maxRecDepth 100000 in
theorem parted_main (w : World) (A0 A1 : Option Addr) (c0 c1 : Nat) (l0 l1 : List Int) (h0 : Kd.C (Kd.int .u16) w A0 l0.length l0) (h1 : Kd.C (Kd.int .u16) w A1 l1.length l1) (hb0 : ∀ x ∈ l0, 0 ≤ x ∧ x < 65536) (hb1 : ∀ x ∈ l1, 0 ≤ x ∧ x < 65536) (ca : ¬ 2147483647 < (l0.length : Int)) (cb : ¬ 2147483647 < (l1.length : Int)) (cc : ¬ 60 < (l0.length : Int)) (cd : ¬ 60 < (l1.length : Int)) :
    Calls Tryd.prog 10 #[.slice A0 l0.length c0, .slice A1 l1.length c1] w fun e w' => e = .returned (.bool true) ∧ Below w.heap.size w w' := by
  have qa : decide ((l0.length : Int) > 2147483647) = false := decide_eq_false ca
  have qb : decide ((l1.length : Int) > 2147483647) = false := decide_eq_false cb
  have qc : decide ((l0.length : Int) > 60) = false := decide_eq_false cc
  have qd : decide ((l1.length : Int) > 60) = false := decide_eq_false cd
  have qa' : decide (2147483647 < (l0.length : Int)) = false := decide_eq_false ca
  have qb' : decide (2147483647 < (l1.length : Int)) = false := decide_eq_false cb
  have qc' : decide (60 < (l0.length : Int)) = false := decide_eq_false cc
  have qd' : decide (60 < (l1.length : Int)) = false := decide_eq_false cd
  have HC0 := Aside0.mk h0
  have HC1 := Aside0.mk h1
  have HX0 := Aside0.mk hb0
  have HX1 := Aside0.mk hb1
  have HL0 := Aside0.mk (show l0.length ≤ 60 by omega)
  have HL1 := Aside0.mk (show l1.length ≤ 60 by omega)
  have hmf : ∀ fn first cap wq, Sem.run Tryd.prog (Instr.makeFunc fn first cap) wq = .ok (.func fn first cap) wq := fun _ _ _ _ => rfl
  clear h0 h1 hb0 hb1 ca cb cc cd
  go_enter Tryd.func10, Tryd.ntmps10
  go_upto_region 6 with (first
    | (go_at_call 39; refine (changes_calls _ A1 c1 l1 (Kd.C_below HC1.out HB1.out) (by have := HL1.out; omega) HX1.out).mono ?_; rintro e w2 ⟨vy, rfl, hR, hb⟩; obtain ⟨Ay, cy, rfl⟩ := Kd.R_slice hR; have HRx := Aside0.mk (Kd.C_below HRx0.out hb); have HRy := Aside0.mk (Kd.R_reads' hR).2.2; have HMy := Aside0.mk (Kd.R_reads' hR).2.1; have HB2 := Aside0.mk (below_step HB1.out hb); clear hR hb HRx0 HB1)
    | (go_at_call 39; refine (changes_calls _ A0 c0 l0 HC0.out (by have := HL0.out; omega) HX0.out).mono ?_; rintro e w1 ⟨vx, rfl, hR, hb⟩; obtain ⟨Ax, cx, rfl⟩ := Kd.R_slice hR; have HRx0 := Aside0.mk (Kd.R_reads' hR).2.2; have HMx := Aside0.mk (Kd.R_reads' hR).2.1; have HB1 := Aside0.mk hb; clear hR hb))
  obtain ⟨xs, hxs⟩ : ∃ xs, xs = chgs l0 := ⟨_, rfl⟩
  obtain ⟨ys, hys⟩ : ∃ ys, ys = chgs l1 := ⟨_, rfl⟩
  have HLx : Aside0 (xs.length ≤ 60) := ⟨by rw [hxs, chgs_len]; exact HL0.out⟩
  have HLy : Aside0 (ys.length ≤ 60) := ⟨by rw [hys, chgs_len]; exact HL1.out⟩
  have HOx : Aside0 ((∀ x ∈ xs, OkD x) ∧ ∀ x ∈ xs, x.f1.size ≤ maxLen) := ⟨by rw [hxs]; exact ⟨chgs_ok _, chgs_path _⟩⟩
  have HOy : Aside0 ((∀ x ∈ ys, OkD x) ∧ ∀ x ∈ ys, x.f1.size ≤ maxLen) := ⟨by rw [hys]; exact ⟨chgs_ok _, chgs_path _⟩⟩
  rw [← hxs] at HRx HMx ⊢
  rw [← hys] at HRy HMy ⊢
  clear hxs hys HL0 HL1 HX0 HX1 HC0 HC1 qa qb qc qd qa' qb' qc' qd'
  go_upto_region 8 with (go_at_call 40; refine (merged2_calls _ Ax Ay cx cy xs ys HRx.out HRy.out (by have := HLx.out; omega) (by have := HLy.out; omega) HOx.out.1 HOy.out.1 HOx.out.2 HOy.out.2).mono ?_; rintro e w3 ⟨Al, cl, Ac, cc, rfl, hl, hlc, hc, hb⟩; have HRl := Aside0.mk hl; have HMl := Aside0.mk hlc; have HRc := Aside0.mk hc; have HB3 := Aside0.mk (below_step HB2.out hb); have HRx3 := Aside0.mk (Kd.C_below HRx.out hb); have HRy3 := Aside0.mk (Kd.C_below HRy.out hb); clear hl hlc hc hb HRx HRy HB2)
  obtain ⟨cs, hcs⟩ : ∃ cs, cs = tcs xs ys := ⟨_, rfl⟩
  have HCS := Aside0.mk hcs
  have HCL : Aside0 (cs.length ≤ xs.length) := ⟨by rw [hcs]; have := tds_len xs ys; omega⟩
  rw [← hcs] at HRc ⊢
  clear hcs
  go_wp2_with fail
  go_loopg [49, 9] cs.length (fun kq v49 v9 w' => ∃ i : Int, v49 = .int .i64 i ∧ Aside0 (∃ j : Nat, i = (j : Int) ∧ j + kq = cs.length ∧ Below w3.heap.size w3 w' ∧ Kd.R Kd.string 9 w' w3.heap.size (fun _ => True) v9 ((cs.take j).map (fun p => p.1.f1))))
  case atStart => exact ⟨0, rfl, ⟨0, rfl, by omega, Below.refl _ _, Kd.R_nil _ _ _ _ _⟩⟩
  case round =>
    obtain ⟨i, rfl, HJ⟩ := hrel
    by_cases hi : i < (cs.length : Int)
    · have q0 : decide (i < (cs.length : Int)) = true := decide_eq_true hi
      obtain ⟨j, hij, hjk, hB, hR⟩ := HJ.out
      have hjl : j < cs.length := by omega
      have hi0 : ((0 : Int) ≤ i) = True := eq_true (by omega)
      have hi1 : (i < (cs.length : Int)) = True := eq_true (by omega)
      obtain ⟨ad, B2, d2, B3, d3, E2, e2, E3, e3, eA, hz⟩ := at_T79 (Kd.C_below HRc.out hB) i (by omega) (by omega)
      subst eA
      rw [show rd_T79 cs i = cs[j] by rw [hij, rd79_eq cs j hjl]] at hz
      obtain ⟨⟨p, q⟩, hpq⟩ : ∃ pq, pq = cs[j] := ⟨_, rfl⟩
      rw [← hpq] at hz
      have hhit := tcs_hit xs ys (p, q) (by rw [hpq, ← HCS.out]; exact List.getElem_mem hjl)
      have HPX := Aside0.mk hhit.1
      have HQY := Aside0.mk hhit.2.1
      obtain ⟨ps, hps⟩ : ∃ ps, ps = (cs.take j).map (fun p => p.1.f1) := ⟨_, rfl⟩
      have HNW : Aside0 (p.f1 ∉ ps) := ⟨by
        have h := tcs_new xs ys j (by rw [← HCS.out]; exact hjl)
        rw [hps]
        simp only [← HCS.out] at h
        rw [← hpq] at h
        exact h⟩
      have HNX := Aside0.mk (show (cs.take (j + 1)).map (fun p => p.1.f1) = ps ++ [p.f1] by rw [List.take_succ_eq_append_getElem hjl, List.map_append, ← hps, ← hpq]; rfl)
      have HPL := Aside0.mk (show ps.length ≤ 100 by rw [hps, List.length_map, List.length_take]; have := HCL.out; have := HLx.out; omega)
      rw [← hps] at hR
      obtain ⟨A9, c9, e9⟩ := Kd.R_slice hR
      subst e9
      have HB := Aside0.mk hB
      have HR := Aside0.mk hR
      have hz0 := hz.c0
      have hz1 := hz.c1
      have hz2 := hz.c2
      have hz3 := hz.c3
      have hz4 := hz.c4
      have hz5 := hz.c5
      have hz6 := hz.c6
      have hz7 := hz.c7
      have HZ := Aside0.mk (And.intro hz.p2 hz.q2)
      have hpp : q.f1 = p.f1 := hhit.2.2
      rw [hpp] at hz5
      have HPP := Aside0.mk hpp
      obtain ⟨i1, hi1e⟩ : ∃ y : Int, wrap64 (i + 1) = y := ⟨_, rfl⟩
      have hi1w : IntKind.i64.wrap (i + 1) = i1 := (i64_w _).trans hi1e
      have HI1 := Aside0.mk (show i1 = ((j + 1 : Nat) : Int) by have := HCL.out; have := HLx.out; rw [← hi1e]; unfold wrap64; omega)
      have HJ2 := Aside0.mk (show j + gk = cs.length ∧ j < cs.length from ⟨hjk, hjl⟩)
      clear hij hjk hjl hi HJ hB hR hpq hps hhit hz hpp
      go_upto_region 11 with fail
      obtain ⟨wx, hwx⟩ : ∃ wx, wx = wr.alloc (.cells #[.int .i64 p.f0, .string p.f1, .slice B2 p.f2.length d2, .slice B3 p.f3.length d3, .int .i64 q.f0, .string p.f1, .slice E2 q.f2.length e2, .slice E3 q.f3.length e3] 79) := ⟨_, rfl⟩
      rw [← hwx]
      obtain ⟨gx, hgx⟩ : ∃ gx, gx = wr.heap.size := ⟨_, rfl⟩
      rw [← hgx]
      have HBX : Aside0 (Below wr.heap.size wr wx) := ⟨by rw [hwx]; exact below_alloc (Below.refl _ _) _⟩
      have hbx : wx.heap[gx]? = some (.cells #[.int .i64 p.f0, .string p.f1, .slice B2 p.f2.length d2, .slice B3 p.f3.length d3, .int .i64 q.f0, .string p.f1, .slice E2 q.f2.length e2, .slice E3 q.f3.length e3] 79 (0, 0)) := by rw [hgx, hwx]; exact blk_new wr _
      have HBK := Aside0.mk hbx
      have HPB : Aside0 (PBox wx gx p q) := ⟨⟨B2, d2, B3, d3, E2, e2, E3, e3, by rw [HPP.out]; exact hbx, ⟨Kd.C_below HZ.out.1.1 HBX.out, HZ.out.1.2.1, Kd.C_below HZ.out.1.2.2.1 HBX.out, HZ.out.1.2.2.2⟩, ⟨Kd.C_below HZ.out.2.1 HBX.out, HZ.out.2.2.1, Kd.C_below HZ.out.2.2.2.1 HBX.out, HZ.out.2.2.2.2⟩⟩⟩
      have hx1 : wx.cell? ⟨gx, 1, none⟩ = some (.string p.f1) := (blk_cell hbx 1).trans rfl
      have hx5 : wx.cell? ⟨gx, 5, none⟩ = some (.string p.f1) := (blk_cell hbx 5).trans rfl
      have HRX := Aside0.mk (Kd.R_below HR.out HBX.out)
      have HF : Aside0 (slices_Contains_string_string.f (ps.length + 1) ps p.f1 = some false) := ⟨by rw [contains_f ps p.f1 (by have := HPL.out; omega), decide_eq_false HNW.out]⟩
      clear hwx hgx hbx hz0 hz1 hz2 hz3 hz4 hz5 hz6 hz7
      go_upto_region 13 with (first
        | (go_at_call 42; refine (contains45_calls w5 gx p q Ay cy ys (HPB.out.more HBX5.out) (Kd.C_below HRy3.out (below_step (below_step HB.out HBX.out) HBX5.out)) (by have := HLy.out; omega) HQY.out).mono ?_; rintro e w6 ⟨rfl, hb⟩; have HBX6 := Aside0.mk (below_step HBX5.out hb); clear hb)
        | (go_at_call 42; refine (contains43_calls w4 gx p q Ax cx xs (HPB.out.more HBX4.out) (Kd.C_below HRx3.out (below_step (below_step HB.out HBX.out) HBX4.out)) (by have := HLx.out; omega) HPX.out).mono ?_; rintro e w5 ⟨rfl, hb⟩; have HBX5 := Aside0.mk (below_step HBX4.out hb); clear hb)
        | (go_at_call 41; refine (slices_Contains_string_string.calls (ps.length + 1) A9 c9 ps p.f1 false wx (Kd.R_reads' HRX.out).2.2 (Kd.R_reads' HRX.out).2.1 HF.out).mono ?_; rintro e w4 ⟨rfl, hd⟩; have HBX4 := Aside0.mk hd.below; clear hd))
      have hy1 : w6.cell? ⟨gx, 1, none⟩ = some (.string p.f1) := (blk_cell ((HBX6.out.block _ (blk_lt HBK.out)).trans HBK.out) 1).trans rfl
      clear hx1 hx5
      have HBF := Aside0.mk (below_step (below_step HB.out HBX.out) HBX6.out)
      have HRF := Aside0.mk (Kd.R_below HRX.out HBX6.out)
      go_wp2_with (at_builtin; refine Kd.R_append Kd.string (w0 := w3) w3.heap.size rfl (.tmp 79) (.tmp 83) 76 9 (.string ⟨#[]⟩) 16 rfl Tryd.underlying76 info9s rfl (by decide) (by decide) (.slice A9 ps.length c9) ps p.f1 [.string p.f1] (fun _ => True) (fun _ => False) rfl rfl rfl (fun _ hk => hk.elim) (fun _ _ => trivial) HRF.out HBF.out HBF.out.size (by have := HPL.out; omega) ?_; intro v1 wz hR hb hg hat; have HFR := Aside0.mk hR; have HFB := Aside0.mk hb; clear hR hb hg hat)
      go_roundg (gk - 1)
      case measure => have := HJ2.out; omega
      case rel =>
        refine ⟨i1, rfl, ⟨j + 1, HI1.out, by have := HJ2.out; omega, HFB.out, ?_⟩⟩
        rw [HNX.out]
        exact HFR.out
    · have q0 : decide (i < (cs.length : Int)) = false := decide_eq_false hi
      obtain ⟨j, hij, hjk, hB, hR⟩ := HJ.out
      have hje : j = cs.length := by omega
      rw [hje, List.take_length] at hR
      obtain ⟨wk, hwk⟩ : ∃ wk, wk = wr := ⟨_, rfl⟩
      rw [← hwk] at hB hR ⊢
      obtain ⟨ps, hps⟩ : ∃ ps, ps = tps xs ys := ⟨_, rfl⟩
      rw [show cs.map (fun p => p.1.f1) = ps by rw [hps, HCS.out]; rfl] at hR
      obtain ⟨A9, c9, e9⟩ := Kd.R_slice hR
      subst e9
      have HPL : Aside0 (ps.length ≤ 100) := ⟨by rw [hps]; unfold tps; rw [List.length_map, ← HCS.out]; have := HCL.out; have := HLx.out; omega⟩
      have HPS := Aside0.mk hps
      have HPR := Aside0.mk (Kd.R_reads' hR).2
      have HBk := Aside0.mk (below_step HB3.out hB)
      have HRlk := Aside0.mk (Kd.C_below HRl.out hB)
      have HRxk := Aside0.mk (Kd.C_below HRx3.out hB)
      have HRyk := Aside0.mk (Kd.C_below HRy3.out hB)
      clear hij hjk hje hB hR HJ hi hwk hps HRl HRx3 HRy3 HB3 HRc
      go_wp2_with fail
      go_loopg [88, 12] ys.length (fun kq v88 v12 w' => ∃ i : Int, v88 = .int .i64 i ∧ Aside0 (∃ j : Nat, i = (j : Int) ∧ j + kq = ys.length ∧ Below wk.heap.size wk w' ∧ Kd.N k78 78 w' wk.heap.size (fun _ => True) v12 ((ys.take j).filter (fun h => decide (h.f1 ∉ ps)))))
      case atStart => exact ⟨0, rfl, ⟨0, rfl, by omega, Below.refl _ _, Kd.N_nil _ _ _ _ _⟩⟩
      case round =>
        clear q0
        obtain ⟨i, rfl, HJ⟩ := hrel
        by_cases hi : i < (ys.length : Int)
        · have q0 : decide (i < (ys.length : Int)) = true := decide_eq_true hi
          obtain ⟨j, hij, hjk, hB, hR⟩ := HJ.out
          have hjl : j < ys.length := by omega
          have hi0 : ((0 : Int) ≤ i) = True := eq_true (by omega)
          have hi1 : (i < (ys.length : Int)) = True := eq_true (by omega)
          obtain ⟨ad, D2, d2, D3, d3, eA, hz0, hz1, hz2, hz3, hFK⟩ := at_F78 (Kd.F_below (Kd.C_F k78_heap HRyk.out) hB) i j hij hjl
          subst eA
          obtain ⟨y, hy⟩ : ∃ y, y = ys[j] := ⟨_, rfl⟩
          rw [← hy] at hz0 hz1 hz2 hz3 hFK
          obtain ⟨rs, hrs⟩ : ∃ rs, rs = (ys.take j).filter (fun h => decide (h.f1 ∉ ps)) := ⟨_, rfl⟩
          have HRL := Aside0.mk (show rs.length ≤ 100 by rw [hrs]; have := List.length_filter_le (fun h : S78 => decide (h.f1 ∉ ps)) (ys.take j); have := HLy.out; rw [List.length_take] at *; omega)
          have HNT := Aside0.mk (show (ys.take (j + 1)).filter (fun h => decide (h.f1 ∉ ps)) = rs ++ (if y.f1 ∈ ps then [] else [y]) by
            rw [List.take_succ_eq_append_getElem hjl, List.filter_append, ← hrs, ← hy]
            congr 1
            by_cases hm : y.f1 ∈ ps
            · rw [if_pos hm, List.filter_cons_of_neg (by simp [hm])]; rfl
            · rw [if_neg hm, List.filter_cons_of_pos (by simp [hm])]; rfl)
          rw [← hrs] at hR
          obtain ⟨A12, c12, e12⟩ := Kd.N_slice hR
          subst e12
          have HB := Aside0.mk hB
          have HR := Aside0.mk hR
          have HFK := Aside0.mk hFK
          obtain ⟨i1, hi1e⟩ : ∃ y : Int, wrap64 (i + 1) = y := ⟨_, rfl⟩
          have hi1w : IntKind.i64.wrap (i + 1) = i1 := (i64_w _).trans hi1e
          have HI1 := Aside0.mk (show i1 = ((j + 1 : Nat) : Int) by have := HLy.out; rw [← hi1e]; unfold wrap64; omega)
          have HJ2 := Aside0.mk (show j + gk = ys.length ∧ j < ys.length from ⟨hjk, hjl⟩)
          clear hij hjk hjl hi HJ hB hR hy hrs hFK
          go_upto_region 19 with fail
          obtain ⟨wx, hwx⟩ : ∃ wx, wx = wr.alloc (.cells #[.int .i64 y.f0, .string y.f1, .slice D2 y.f2.length d2, .slice D3 y.f3.length d3] 78) := ⟨_, rfl⟩
          rw [← hwx]
          obtain ⟨gx, hgx⟩ : ∃ gx, gx = wr.heap.size := ⟨_, rfl⟩
          rw [← hgx]
          have HBX : Aside0 (Below wr.heap.size wr wx) := ⟨by rw [hwx]; exact below_alloc (Below.refl _ _) _⟩
          have hbx : wx.heap[gx]? = some (.cells #[.int .i64 y.f0, .string y.f1, .slice D2 y.f2.length d2, .slice D3 y.f3.length d3] 78 (0, 0)) := by rw [hgx, hwx]; exact blk_new wr _
          have HBK := Aside0.mk hbx
          have hx1 : wx.cell? ⟨gx, 1, none⟩ = some (.string y.f1) := (blk_cell hbx 1).trans rfl
          have HBWX := Aside0.mk (below_step HB.out HBX.out)
          by_cases hm : y.f1 ∈ ps
          · have HF : Aside0 (slices_Contains_string_string.f (ps.length + 1) ps y.f1 = some true) := ⟨by rw [contains_f ps y.f1 (by have := HPL.out; omega), decide_eq_true hm]⟩
            have HM := Aside0.mk hm
            clear hwx hgx hbx hz0 hz1 hz2 hz3 hm
            go_wp2_with (go_at_call 41; refine (slices_Contains_string_string.calls (ps.length + 1) A9 c9 ps y.f1 true wx (Kd.C_below HPR.out.2 HBWX.out) HPR.out.1 HF.out).mono ?_; rintro e w4 ⟨rfl, hd⟩; have HBX4 := Aside0.mk hd.below; clear hd)
            go_roundg (gk - 1)
            case measure => have := HJ2.out; omega
            case rel =>
              refine ⟨i1, rfl, ⟨j + 1, HI1.out, by have := HJ2.out; omega, below_step HBWX.out HBX4.out, ?_⟩⟩
              rw [HNT.out, if_pos HM.out, List.append_nil]
              exact Kd.N_below (Kd.N_below HR.out HBX.out) HBX4.out
          · have HF : Aside0 (slices_Contains_string_string.f (ps.length + 1) ps y.f1 = some false) := ⟨by rw [contains_f ps y.f1 (by have := HPL.out; omega), decide_eq_false hm]⟩
            have HM := Aside0.mk hm
            clear hwx hgx hbx hz0 hz1 hz2 hz3 hm
            go_upto_region 20 with (go_at_call 41; refine (slices_Contains_string_string.calls (ps.length + 1) A9 c9 ps y.f1 false wx (Kd.C_below HPR.out.2 HBWX.out) HPR.out.1 HF.out).mono ?_; rintro e w4 ⟨rfl, hd⟩; have HBX4 := Aside0.mk hd.below; clear hd)
            have hb4 := (HBX4.out.block _ (blk_lt HBK.out)).trans HBK.out
            have hy0 : w4.cell? ⟨gx, 0, none⟩ = some (.int .i64 y.f0) := (blk_cell hb4 0).trans rfl
            have hy1 : w4.cell? ⟨gx, 1, none⟩ = some (.string y.f1) := (blk_cell hb4 1).trans rfl
            have hy2 : w4.cell? ⟨gx, 2, none⟩ = some (.slice D2 y.f2.length d2) := (blk_cell hb4 2).trans rfl
            have hy3 : w4.cell? ⟨gx, 3, none⟩ = some (.slice D3 y.f3.length d3) := (blk_cell hb4 3).trans rfl
            clear hx1 hb4
            have HBF := Aside0.mk (below_step HBWX.out HBX4.out)
            have HRF := Aside0.mk (Kd.N_below (Kd.N_below HR.out HBX.out) HBX4.out)
            have HKF := Aside0.mk (Kd.FK_step HFK.out (fun k _ hk => (HBX4.out.block k (Nat.lt_of_lt_of_le hk HBX.out.size)).trans (HBX.out.block k hk)))
            go_wp2_with (at_builtin; refine Kd.N_append k78 (w0 := wk) wk.heap.size rfl (.tmp 97) (.tmp 99) 71 78 (.agg #[.int .i64 0, .string ⟨#[]⟩, .slice none 0 0, .slice none 0 0]) 72 rfl Tryd.underlying71 info78 rfl (by decide) (by decide) (.slice A12 rs.length c12) rs y [.int .i64 y.f0, .string y.f1, .slice D2 y.f2.length d2, .slice D3 y.f3.length d3] (fun _ => True) (fun k => k < wk.heap.size) rfl rfl HKF.out (fun k hk => ⟨trivial, fun e => by have := Kd.N_base HRF.out k e.symm; omega⟩) (fun _ _ => trivial) HRF.out HBF.out HBF.out.size (by have := HRL.out; omega) ?_; intro v1 wz hR hb hg hat; have HFR := Aside0.mk hR; have HFB := Aside0.mk hb; clear hR hb hg hat)
            go_roundg (gk - 1)
            case measure => have := HJ2.out; omega
            case rel =>
              refine ⟨i1, rfl, ⟨j + 1, HI1.out, by have := HJ2.out; omega, HFB.out, ?_⟩⟩
              rw [HNT.out, if_neg HM.out]
              exact HFR.out
        · have q0 : decide (i < (ys.length : Int)) = false := decide_eq_false hi
          obtain ⟨j, hij, hjk, hB, hR⟩ := HJ.out
          have hje : j = ys.length := by omega
          rw [hje, List.take_length] at hR
          obtain ⟨wz, hwz⟩ : ∃ wz, wz = wr := ⟨_, rfl⟩
          rw [← hwz] at hB hR ⊢
          obtain ⟨rs, hrs⟩ : ∃ rs, rs = ys.filter (fun h => decide (h.f1 ∉ ps)) := ⟨_, rfl⟩
          rw [← hrs] at hR
          obtain ⟨A12, c12, e12⟩ := Kd.N_slice hR
          subst e12
          have hlen := len_tds xs ys
          have hdrop := drop_tds xs ys
          rw [← HPS.out, ← hrs, ← HCS.out] at hlen hdrop
          obtain ⟨n, hn⟩ : ∃ n, n = xs.length - cs.length := ⟨_, rfl⟩
          rw [← hn] at hlen hdrop
          have hcl := HCL.out
          have hlx := HLx.out
          have hly := HLy.out
          have hrl : rs.length ≤ ys.length := by rw [hrs]; exact List.length_filter_le _ _
          obtain ⟨l, hl⟩ : ∃ l, l = tds xs ys := ⟨_, rfl⟩
          have HRz := Aside0.mk (Kd.C_below HRlk.out hB)
          have HMz := Aside0.mk HMl.out
          rw [← hl] at hlen hdrop HRz HMz ⊢
          have e1 : (xs.length : Int) - (cs.length : Int) = (n : Int) := by omega
          have hCd := Kd.C_drop HRz.out (show n ≤ l.length by omega) HMz.out
          rw [hdrop] at hCd
          obtain ⟨i78, hi78, hs78⟩ : ∃ j, Tryd.prog.info? 78 = some j ∧ j.size = 4 := by
            have h : (Tryd.prog.info? 78).map (·.size) = some 4 := by kernel_rfl
            obtain ⟨j, hj, hs⟩ := Option.map_eq_some_iff.1 h
            exact ⟨j, hj, hs⟩
          have hcut := cut_from 71 78 .i64 Tryd.underlying71 hi78 4 hs78 Al l.length cl (n : Int) (by omega) (by omega)
          rw [Int.toNat_natCast, show l.length - n = rs.length by omega] at hcut
          have hCd2 : Kd.C k78 wz (if cl = n then Al else Al.map (·.add (n * 4))) rs.length rs := hCd
          obtain ⟨Ad, hAd⟩ : ∃ A, A = (if cl = n then Al else Al.map (·.add (n * 4))) := ⟨_, rfl⟩
          rw [← hAd] at hcut hCd2
          obtain ⟨cd, hcd⟩ : ∃ c, c = cl - n := ⟨_, rfl⟩
          rw [← hcd] at hcut
          have HCd := Aside0.mk hCd2
          have HMd := Aside0.mk (show rs.length ≤ cd by have := HMz.out; omega)
          have HRL := Aside0.mk (show rs.length ≤ 60 by omega)
          have f5 : decide ((n : Int) < 0) = false := decide_eq_false (by omega)
          have hn60 : n ≤ 60 := by omega
          have hl200 : l.length ≤ 200 := by omega
          have f1 : wrap64 ((xs.length : Int) - (cs.length : Int)) = (n : Int) := by rw [e1]; clear hlen hrl hcl hlx hly; unfold wrap64; omega
          have f2 : IntKind.i64.wrap ((xs.length : Int) - (cs.length : Int)) = (n : Int) := (i64_w _).trans f1
          have e2 : (n : Int) + (rs.length : Int) = (l.length : Int) := by omega
          have f3 : wrap64 ((n : Int) + (rs.length : Int)) = (l.length : Int) := by rw [e2]; clear f1 f2 hlen hrl hcl hlx hly; unfold wrap64; omega
          have f4 : IntKind.i64.wrap ((n : Int) + (rs.length : Int)) = (l.length : Int) := (i64_w _).trans f3
          have HB := Aside0.mk hB
          have HR := Aside0.mk (Kd.N_reads' hR).2
          have HRxz := Aside0.mk (Kd.C_below HRxk.out hB)
          have HRyz := Aside0.mk (Kd.C_below HRyk.out hB)
          have HBz := Aside0.mk (below_step HBk.out hB)
          clear hn60 hl200 hij hjk hje hB hR HJ hi hwz hrs hlen hdrop hn hcl hlx hly hrl hl e1 e2 hCd hCd2 hAd hcd hi78 hs78
          go_upto_region 25 with (go_at_call 46; refine (impl_Diff_46_sameDiff.calls (rs.length + 1) Ad cd rs A12 c12 rs () true wz HCd.out HMd.out HR.out.2 HR.out.1 (equal_f rs (by have := HRL.out; omega))).mono ?_; rintro e wa ⟨rfl, hb⟩; have HBa := Aside0.mk hb; clear hb)
          go_upto_region 26 with (go_at_call 40; refine (merged2_calls wa Ax none cx 0 xs [] (Kd.C_below HRxz.out HBa.out) (Kd.C_nil _ _) (by have := HLx.out; omega) (by decide) HOx.out.1 (fun _ h => by cases h) HOx.out.2 (fun _ h => by cases h)).mono ?_; rintro e wb ⟨Af, cf, An, cn, rfl, hf, hfc, _, hb⟩; rw [(t_nil_right xs).1] at hf hfc; rw [(t_nil_right xs).1, (t_nil_right xs).2]; have HRf := Aside0.mk hf; have HMf := Aside0.mk hfc; have HBb := Aside0.mk (below_step HBa.out hb); clear hf hfc hb)
          go_upto_region 27 with (go_at_call 40; refine (merged2_calls wb none Ay 0 cy [] ys (Kd.C_nil _ _) (Kd.C_below HRyz.out HBb.out) (by decide) (by have := HLy.out; omega) (fun _ h => by cases h) HOy.out.1 (fun _ h => by cases h) HOy.out.2).mono ?_; rintro e wc ⟨Ag, cg, Am, cm, rfl, hf, hfc, _, hb⟩; rw [(t_nil_left ys).1] at hf hfc; rw [(t_nil_left ys).1, (t_nil_left ys).2]; have HRg := Aside0.mk hf; have HMg := Aside0.mk hfc; have HBc' := Aside0.mk hb; have HBc := Aside0.mk (below_step HBb.out hb); clear hf hfc hb)
          go_wp2_with (first
            | (go_at_call 38; refine (live_calls we).mono ?_; rintro e wf ⟨rfl, hb⟩; have HBf := Aside0.mk (below_step HBe.out hb); clear hb)
            | (go_at_call 46; refine (impl_Diff_46_sameDiff.calls (ys.length + 1) Ag cg ys Ay cy ys () true wd (Kd.C_below HRg.out HBd'.out) HMg.out (Kd.C_below HRyz.out HBd.out) HMy.out (equal_f ys (by have := HLy.out; omega))).mono ?_; rintro e we ⟨rfl, hb⟩; have HBe := Aside0.mk (below_step HBd.out hb); clear hb)
            | (go_at_call 46; refine (impl_Diff_46_sameDiff.calls (xs.length + 1) Af cf xs Ax cx xs () true wc (Kd.C_below HRf.out HBc'.out) HMf.out (Kd.C_below HRxz.out HBc.out) HMx.out (equal_f xs (by have := HLx.out; omega))).mono ?_; rintro e wd ⟨rfl, hb⟩; have HBd' := Aside0.mk hb; have HBd := Aside0.mk (below_step HBc.out hb); clear hb))
          go_ret
          exact ⟨rfl, below_step HBz.out HBf.out⟩
theorem parted_calls (w : World) (A0 A1 : Option Addr) (c0 c1 : Nat) (l0 l1 : List Int) (h0 : Kd.C (Kd.int .u16) w A0 l0.length l0) (h1 : Kd.C (Kd.int .u16) w A1 l1.length l1) (hb0 : ∀ x ∈ l0, 0 ≤ x ∧ x < 65536) (hb1 : ∀ x ∈ l1, 0 ≤ x ∧ x < 65536) :
    Calls Tryd.prog 10 #[.slice A0 l0.length c0, .slice A1 l1.length c1] w fun e w' => e = .returned (.bool true) ∧ Below w.heap.size w w' := by
  by_cases ca : 2147483647 < (l0.length : Int)
  · have qa : decide ((l0.length : Int) > 2147483647) = true := decide_eq_true ca
    have qa' : decide (2147483647 < (l0.length : Int)) = true := decide_eq_true ca
    clear h0 h1 hb0 hb1 ca
    go_enter Tryd.func10, Tryd.ntmps10
    go_wp2_with fail
    go_ret
    exact ⟨rfl, Below.refl _ _⟩
  · by_cases cb : 2147483647 < (l1.length : Int)
    · have qa : decide ((l0.length : Int) > 2147483647) = false := decide_eq_false ca
      have qa' : decide (2147483647 < (l0.length : Int)) = false := decide_eq_false ca
      have qb : decide ((l1.length : Int) > 2147483647) = true := decide_eq_true cb
      have qb' : decide (2147483647 < (l1.length : Int)) = true := decide_eq_true cb
      clear h0 h1 hb0 hb1 ca cb
      go_enter Tryd.func10, Tryd.ntmps10
      go_wp2_with fail
      go_ret
      exact ⟨rfl, Below.refl _ _⟩
    · by_cases cc : 60 < (l0.length : Int)
      · have qa : decide ((l0.length : Int) > 2147483647) = false := decide_eq_false ca
        have qa' : decide (2147483647 < (l0.length : Int)) = false := decide_eq_false ca
        have qb : decide ((l1.length : Int) > 2147483647) = false := decide_eq_false cb
        have qb' : decide (2147483647 < (l1.length : Int)) = false := decide_eq_false cb
        have qc : decide ((l0.length : Int) > 60) = true := decide_eq_true cc
        have qc' : decide (60 < (l0.length : Int)) = true := decide_eq_true cc
        clear h0 h1 hb0 hb1 ca cb cc
        go_enter Tryd.func10, Tryd.ntmps10
        go_wp2_with (go_at_call 38; refine (live_calls _).mono ?_; rintro e w1 ⟨rfl, hb⟩; have HB1 := Aside0.mk hb; clear hb)
        go_ret
        exact ⟨rfl, HB1.out⟩
      · by_cases cd : 60 < (l1.length : Int)
        · have qa : decide ((l0.length : Int) > 2147483647) = false := decide_eq_false ca
          have qa' : decide (2147483647 < (l0.length : Int)) = false := decide_eq_false ca
          have qb : decide ((l1.length : Int) > 2147483647) = false := decide_eq_false cb
          have qb' : decide (2147483647 < (l1.length : Int)) = false := decide_eq_false cb
          have qc : decide ((l0.length : Int) > 60) = false := decide_eq_false cc
          have qc' : decide (60 < (l0.length : Int)) = false := decide_eq_false cc
          have qd : decide ((l1.length : Int) > 60) = true := decide_eq_true cd
          have qd' : decide (60 < (l1.length : Int)) = true := decide_eq_true cd
          clear h0 h1 hb0 hb1 ca cb cc cd
          go_enter Tryd.func10, Tryd.ntmps10
          go_wp2_with (go_at_call 38; refine (live_calls _).mono ?_; rintro e w1 ⟨rfl, hb⟩; have HB1 := Aside0.mk hb; clear hb)
          go_ret
          exact ⟨rfl, HB1.out⟩
        · exact parted_main w A0 A1 c0 c1 l0 l1 h0 h1 hb0 hb1 ca cb cc cd
theorem parted_walk (a0 : Option Addr) (len0 cap0 : Nat) (z0 : List Int) (a1 : Option Addr) (len1 cap1 : Nat) (z1 : List Int) (w : World)
    (w0 : (a0 = none ∧ len0 = 0 ∧ cap0 = 0 ∧ z0 = []) ∨ ∃ x, a0 = some x ∧ len0 ≤ cap0 ∧ cap0 ≤ maxLen ∧ z0.length = cap0 ∧ (∀ i, i < z0.length → w.cell? (x.add i) = some (.int .u16 (z0.getD i 0))) ∧ ∀ n ∈ z0, (Lit.int .u16 n).wf = true) (y0 : len0 * 2 ≤ 140737488351232)
    (w1 : (a1 = none ∧ len1 = 0 ∧ cap1 = 0 ∧ z1 = []) ∨ ∃ x, a1 = some x ∧ len1 ≤ cap1 ∧ cap1 ≤ maxLen ∧ z1.length = cap1 ∧ (∀ i, i < z1.length → w.cell? (x.add i) = some (.int .u16 (z1.getD i 0))) ∧ ∀ n ∈ z1, (Lit.int .u16 n).wf = true) (y1 : len1 * 2 ≤ 140737488351232) :
    Calls Tryd.prog 10 #[.slice a0 len0 cap0, .slice a1 len1 cap1] w fun e w' => e = .returned (.bool true) ∧ Below w.heap.size w w' := by
  obtain ⟨l0, rfl, hr0, hm0, hw0, hc0⟩ := ReadsInt.ofRowC w0
  obtain ⟨l1, rfl, hr1, hm1, hw1, hc1⟩ := ReadsInt.ofRowC w1
  refine parted_calls w a0 a1 cap0 cap1 l0 l1 (Kd.C_of_reads (d := (0 : Int)) (h1 := fun _ => rfl) hr0) (Kd.C_of_reads (d := (0 : Int)) (h1 := fun _ => rfl) hr1) (fun x hx => ?_) (fun x hx => ?_)
  · have := hw0 x hx
    simp [Lit.wf, IntKind.bits, IntKind.signed, IntKind.min, IntKind.max] at this
    omega
  · have := hw1 x hx
    simp [Lit.wf, IntKind.bits, IntKind.signed, IntKind.min, IntKind.max] at this
    omega
end Go.Proofs.YtnhnlodmkbiiiaaDoor.HandDif
