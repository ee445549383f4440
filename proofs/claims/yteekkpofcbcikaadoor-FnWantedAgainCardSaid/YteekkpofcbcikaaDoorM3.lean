/- The walk of the law FnWantedAgain. -/
import Derived.Test.YteekkpofcbcikaaDoorM2
namespace Go.Proofs.YteekkpofcbcikaaDoor.HandWan
open Go Go.RowKit Go.Proofs.YteekkpofcbcikaaDoorL Go.Proofs.YteekkpofcbcikaaDoorW.PrintWords Go.Proofs.YteekkpofcbcikaaDoorW.PrintLast Go.Proofs.YteekkpofcbcikaaDoorW.PrintMore Go.Proofs.YteekkpofcbcikaaDoor.PWan
attribute [local go_sem] max2_int min2_int max_two min_two max_three min_three max_four min_four
set_option linter.unusedVariables false
set_option linter.unusedSimpArgs false
theorem at_F31 {w : World} {ok : Nat → Prop} {A : Option Addr} {xs : List S31} (h : Kd.F k31 w ok A xs.length xs) (i : Int) (j : Nat) (hij : i = (j : Int)) (hj : j < xs.length) : ∃ ad A1 c1, A = some ad ∧ w.cell? (ad.add (i.toNat * 4)) = some (.int .i64 xs[j].f0) ∧ w.cell? ⟨(ad.add (i.toNat * 4)).block, (ad.add (i.toNat * 4)).off + 1, none⟩ = some (.slice A1 xs[j].f1.f0.length c1) ∧ w.cell? ⟨(ad.add (i.toNat * 4)).block, (ad.add (i.toNat * 4)).off + 2, none⟩ = some (.int .i32 xs[j].f1.f1) ∧ w.cell? ⟨(ad.add (i.toNat * 4)).block, (ad.add (i.toNat * 4)).off + 3, none⟩ = some (.bool xs[j].f1.f2) ∧ Kd.FK k31 w ok xs[j] [.int .i64 xs[j].f0, .slice A1 xs[j].f1.f0.length c1, .int .i32 xs[j].f1.f1, .bool xs[j].f1.f2] := by
  obtain ⟨ad, c, e, _, hK, hc0⟩ := Kd.F_get h z31 i (by omega) (by omega)
  have hc : ∀ j u, c[j]? = some u → w.cell? (ad.add (i.toNat * 4 + j)) = some u := hc0.1
  have ex : xs.getD i.toNat z31 = xs[j] := by rw [hij, Int.toNat_natCast, List.getD_eq_getElem?_getD, List.getElem?_eq_getElem hj]; rfl
  rw [ex] at hK
  obtain ⟨A1, c1, rfl, _⟩ := k31_openF hK
  exact ⟨ad, A1, c1, e, hc 0 _ rfl, by rw [← add_field _ _ 1 (by omega)]; exact hc 1 _ rfl, by rw [← add_field _ _ 2 (by omega)]; exact hc 2 _ rfl, by rw [← add_field _ _ 3 (by omega)]; exact hc 3 _ rfl, hK⟩
def keepW (x : S31) : Bool := decide (x.f0 ≠ 1) && decide (x.f0 ≠ 2)
set_option maxHeartbeats 32000000 in
set_option maxRecDepth 100000 in
theorem again_main (w : World) (A0 A1 : Option Addr) (c0 c1 : Nat) (l0 l1 : List S73) (m : Nat) (p : Int) (h0 : Kd.C k73 w A0 l0.length l0) (k0 : l0.length ≤ c0) (h1 : Kd.C k73 w A1 l1.length l1) (k1 : l1.length ≤ c1) (hb0 : ∀ s ∈ l0, (0 ≤ s.f0 ∧ s.f0 < 256) ∧ (0 ≤ s.f1 ∧ s.f1 < 256)) (hb1 : ∀ s ∈ l1, (0 ≤ s.f0 ∧ s.f0 < 256) ∧ (0 ≤ s.f1 ∧ s.f1 < 256)) (hm : m < 256) (ca : ¬ 2147483647 < (l0.length : Int)) (cb : ¬ 2147483647 < (l1.length : Int)) (cc : ¬ 40 < (l0.length : Int)) (cd : ¬ 40 < (l1.length : Int)) :
    Calls Tryd.prog 3 #[.slice A0 l0.length c0, .slice A1 l1.length c1, .int .u8 (m : Int), .int .i32 p] w fun e w' => e = .returned (.bool true) ∧ Below w.heap.size w w' := by
  have qa : decide ((l0.length : Int) > 2147483647) = false := decide_eq_false ca
  have qb : decide ((l1.length : Int) > 2147483647) = false := decide_eq_false cb
  have qc : decide ((l0.length : Int) > 40) = false := decide_eq_false cc
  have qd : decide ((l1.length : Int) > 40) = false := decide_eq_false cd
  have qa' : decide (2147483647 < (l0.length : Int)) = false := decide_eq_false ca
  have qb' : decide (2147483647 < (l1.length : Int)) = false := decide_eq_false cb
  have qc' : decide (40 < (l0.length : Int)) = false := decide_eq_false cc
  have qd' : decide (40 < (l1.length : Int)) = false := decide_eq_false cd
  have HC0 := Aside0.mk h0
  have HC1 := Aside0.mk h1
  have HK0 := Aside0.mk k0
  have HK1 := Aside0.mk k1
  have HX0 := Aside0.mk hb0
  have HX1 := Aside0.mk hb1
  have HM := Aside0.mk hm
  have HL0 := Aside0.mk (show l0.length ≤ 40 by omega)
  have HL1 := Aside0.mk (show l1.length ≤ 40 by omega)
  clear h0 h1 k0 k1 hb0 hb1 hm ca cb cc cd
  go_enter Tryd.func3, Tryd.ntmps3
  go_upto_region 6 with (go_at_call 8; refine (identifier_calls m HM.out w).mono ?_; rintro e w1 ⟨vi, rfl, hR, hb⟩; obtain ⟨Ai, ci, rfl⟩ := Kd.R_slice hR; have HRi := Aside0.mk hR; have HB1 := Aside0.mk hb; clear hR hb)
  clear qa qb qc qd qa' qb' qc' qd'
  obtain ⟨wa, hwa⟩ : ∃ wa, wa = w1.alloc (.cells #[.slice Ai (idB m).length ci, .int .i32 p, .bool false] 27) := ⟨_, rfl⟩
  obtain ⟨gE, hgE⟩ : ∃ gE, gE = w1.heap.size := ⟨_, rfl⟩
  rw [← hwa, ← hgE]
  have HBa : Aside0 (Below w.heap.size w wa) := ⟨by rw [hwa]; exact below_alloc HB1.out _⟩
  have HBE : Aside0 (wa.heap[gE]? = some (.cells #[.slice Ai (idB m).length ci, .int .i32 p, .bool false] 27 (0, 0))) := ⟨by rw [hwa, hgE]; exact blk_new w1 _⟩
  have HFi : Aside0 (Kd.F (Kd.int .u8) wa (fun k => k < wa.heap.size) Ai (idB m).length (idB m)) := ⟨Kd.C_F (Kd.heap_int .u8) (by rw [hwa]; exact Kd.C_alloc (Kd.R_reads' HRi.out).2.2 _)⟩
  have HLi := Aside0.mk (Kd.R_reads' HRi.out).2.1
  clear hwa hgE HRi HB1
  obtain ⟨e, he⟩ : ∃ e, e = (⟨idB m, p, false⟩ : S27) := ⟨_, rfl⟩
  have HE := Aside0.mk he
  clear he
  obtain ⟨LA, hLA⟩ : ∃ LA, LA = l0.map mkW := ⟨_, rfl⟩
  have HLA := Aside0.mk hLA
  have HLAl := Aside0.mk (show LA.length ≤ 40 by rw [hLA, List.length_map]; exact HL0.out)
  clear hLA
  go_upto_region 7 with (go_at_call 9; refine (wants_calls wa A0 c0 l0 (Kd.C_below HC0.out HBa.out) HK0.out (by have := HL0.out; omega) HX0.out).mono ?_; rintro e' w2 ⟨vx, rfl, hR, hb⟩; rw [← HLA.out] at hR; obtain ⟨Ax, cx, rfl⟩ := Kd.R_slice hR; have HNx := Aside0.mk (Kd.R_N hR); have HB2 := Aside0.mk hb; clear hR hb)
  have hbE2 := (HB2.out.block _ (blk_lt HBE.out)).trans HBE.out
  have hv0 : w2.cell? ⟨gE, 0, none⟩ = some (.slice Ai (idB m).length ci) := (blk_cell hbE2 0).trans rfl
  have hv1 : w2.cell? ⟨gE, 1, none⟩ = some (.int .i32 p) := (blk_cell hbE2 1).trans rfl
  have hv2 : w2.cell? ⟨gE, 2, none⟩ = some (.bool false) := (blk_cell hbE2 2).trans rfl
  have HFi2 := Aside0.mk (Kd.F_below HFi.out HB2.out)
  clear hbE2
  obtain ⟨L1, hL1⟩ : ∃ L1, L1 = LA ++ [(⟨1, ⟨idB m, p, false⟩⟩ : S31), ⟨0, ⟨idB m, p, false⟩⟩] := ⟨_, rfl⟩
  have HL1e := Aside0.mk hL1
  have HL1l := Aside0.mk (show L1.length ≤ 50 by rw [hL1, List.length_append]; have := HLAl.out; simp only [List.length_cons, List.length_nil]; omega)
  clear hL1
  go_upto_region 8 with (at_builtin; refine Kd.N_append_rows k31 (w0 := wa) wa.heap.size rfl (.tmp 38) (.tmp 43) 28 31 (.agg #[.int .i64 0, .slice none 0 0, .int .i32 0, .bool false]) 40 rfl Tryd.underlying28 info31e rfl (by decide) (by decide) (.slice Ax LA.length cx) LA [(⟨1, ⟨idB m, p, false⟩⟩ : S31), ⟨0, ⟨idB m, p, false⟩⟩] (some ⟨w2.heap.size, 0, none⟩) 2 2 (fun _ => True) (fun k => k < wa.heap.size ∨ k = w2.heap.size) rfl rfl (Kd.N_alloc HNx.out _) (F_lit (blk_new w2 _) (.inr rfl) (fun W' hW => reps_two (x := ⟨1, ⟨idB m, p, false⟩⟩) (y := ⟨0, ⟨idB m, p, false⟩⟩) HLi.out (Kd.F_alloc HFi2.out _ W' (fun k hk hlt => hW k (.inl hk) hlt)) HLi.out (Kd.F_alloc HFi2.out _ W' (fun k hk hlt => hW k (.inl hk) hlt))) (show (2 : Nat) ≤ 1000000 by decide)) (fun k hk => ⟨trivial, fun e' => by have h1 := Kd.N_base HNx.out k e'.symm; have h2 := Kd.N_lt HNx.out k e'.symm; omega⟩) (fun _ _ => trivial) (below_alloc HB2.out _) (below_alloc HB2.out _).size (by have := HLAl.out; omega) ?_; intro v3 w3 hN hb hg hat; rw [← HL1e.out] at hN; obtain ⟨Ay, cy, rfl⟩ := Kd.N_slice hN; have HN3 := Aside0.mk hN; have HB3 := Aside0.mk hb; clear hN hb hg hat)
  clear hv0 hv1 hv2 HNx HB2 HFi2
  obtain ⟨LB, hLB⟩ : ∃ LB, LB = l1.map mkW := ⟨_, rfl⟩
  have HLB := Aside0.mk hLB
  have HLBl := Aside0.mk (show LB.length ≤ 40 by rw [hLB, List.length_map]; exact HL1.out)
  clear hLB
  go_wp2_with (go_at_call 9; refine (wants_calls w3 A1 c1 l1 (Kd.C_below HC1.out (below_step HBa.out HB3.out)) HK1.out (by have := HL1.out; omega) HX1.out).mono ?_; rintro e' w4 ⟨vb, rfl, hR, hb⟩; rw [← HLB.out] at hR; obtain ⟨Ab, cb, rfl⟩ := Kd.R_slice hR; have HRB := Aside0.mk (Kd.R_bound hR); have HB4 := Aside0.mk hb; have HN4 := Aside0.mk (Kd.N_below HN3.out hb); have HO3 := Aside0.mk (Kd.N_lt HN3.out); clear hR hb)
  have HB34 := Aside0.mk (below_step HB3.out HB4.out)
  clear HB3
  go_loopg [48, 10] LB.length (fun kq v48 v10 w' => ∃ i : Int, v48 = .int .i64 i ∧ Aside0 (∃ j : Nat, i = (j : Int) ∧ j + kq = LB.length ∧ Below wa.heap.size wa w' ∧ Kd.N k31 31 w' wa.heap.size (fun _ => True) v10 (L1 ++ (LB.take j).filter keepW) ∧ w4.heap.size ≤ w'.heap.size ∧ (∀ k, w3.heap.size ≤ k → k < w4.heap.size → w'.heap[k]? = w4.heap[k]?) ∧ (∀ k, v10.ownBlock = some k → k < w3.heap.size ∨ w4.heap.size ≤ k)))
  case atStart => exact ⟨0, rfl, ⟨0, rfl, by omega, HB34.out, by rw [List.take_zero, List.filter_nil, List.append_nil]; exact HN4.out, Nat.le_refl _, fun _ _ _ => rfl, fun k hk => .inl (HO3.out k hk)⟩⟩
  case round =>
    obtain ⟨i, rfl, HJ⟩ := hrel
    by_cases hi : i < (LB.length : Int)
    · have q0 : decide (i < (LB.length : Int)) = true := decide_eq_true hi
      obtain ⟨j, hij, hjk, hB, hN, hsz, hkp, hown⟩ := HJ.out
      have hjl : j < LB.length := by omega
      have hi0 : ((0 : Int) ≤ i) = True := eq_true (by omega)
      have hi1 : (i < (LB.length : Int)) = True := eq_true (by omega)
      have hRw := Kd.R_step HRB.out (fun k hk _ => hkp k hk.2.1 hk.2.2.1)
      obtain ⟨ad, A2, c2, eA, hz0, hz1, hz2, hz3, hFK⟩ := at_F31 (Kd.R_F hRw) i j hij hjl
      subst eA
      obtain ⟨x, hx⟩ : ∃ x, x = LB[j] := ⟨_, rfl⟩
      rw [← hx] at hz0 hz1 hz2 hz3 hFK
      obtain ⟨xs, hxs⟩ : ∃ xs, xs = L1 ++ (LB.take j).filter keepW := ⟨_, rfl⟩
      have HXL := Aside0.mk (show xs.length ≤ 100 by rw [hxs, List.length_append]; have h1 := List.length_filter_le keepW (LB.take j); have := HL1l.out; have := HLBl.out; rw [List.length_take] at h1; omega)
      have HNT := Aside0.mk (show L1 ++ (LB.take (j + 1)).filter keepW = xs ++ (if keepW x = true then [x] else []) by
        rw [List.take_succ_eq_append_getElem hjl, List.filter_append, ← List.append_assoc, ← hxs, ← hx]
        congr 1
        by_cases hk : keepW x = true
        · rw [if_pos hk, List.filter_cons_of_pos hk]; rfl
        · rw [if_neg hk, List.filter_cons_of_neg hk]; rfl)
      rw [← hxs] at hN
      obtain ⟨Ac, cc, ec⟩ := Kd.N_slice hN
      subst ec
      have HB := Aside0.mk hB
      have HN := Aside0.mk hN
      have HFK := Aside0.mk (Kd.FK_mono hFK (ok' := fun k => w3.heap.size ≤ k ∧ k < w4.heap.size) (fun k hk => ⟨hk.2.1, hk.2.2.1⟩))
      have HKP := Aside0.mk hkp
      have HSZ := Aside0.mk hsz
      have HOW := Aside0.mk hown
      obtain ⟨i1, hi1e⟩ : ∃ y : Int, wrap64 (i + 1) = y := ⟨_, rfl⟩
      have hi1w : IntKind.i64.wrap (i + 1) = i1 := (i64_w _).trans hi1e
      have HI1 := Aside0.mk (show i1 = ((j + 1 : Nat) : Int) by have := HLBl.out; rw [← hi1e]; unfold wrap64; omega)
      have HJ2 := Aside0.mk (show j + gk = LB.length ∧ j < LB.length from ⟨hjk, hjl⟩)
      clear hij hjk hjl hi HJ hB hN hsz hkp hown hx hxs hFK hRw
      go_upto_region 11 with fail
      obtain ⟨wx, hwx⟩ : ∃ wx, wx = wr.alloc (.cells #[.int .i64 x.f0, .slice A2 x.f1.f0.length c2, .int .i32 x.f1.f1, .bool x.f1.f2] 31) := ⟨_, rfl⟩
      rw [← hwx]
      obtain ⟨gx, hgx⟩ : ∃ gx, gx = wr.heap.size := ⟨_, rfl⟩
      rw [← hgx]
      have hBX : Below wr.heap.size wr wx := by rw [hwx]; exact below_alloc (Below.refl _ _) _
      have hbx : wx.heap[gx]? = some (.cells #[.int .i64 x.f0, .slice A2 x.f1.f0.length c2, .int .i32 x.f1.f1, .bool x.f1.f2] 31 (0, 0)) := by rw [hgx, hwx]; exact blk_new wr _
      have hy0 : wx.cell? ⟨gx, 0, none⟩ = some (.int .i64 x.f0) := (blk_cell hbx 0).trans rfl
      have hy1 : wx.cell? ⟨gx, 1, none⟩ = some (.slice A2 x.f1.f0.length c2) := (blk_cell hbx 1).trans rfl
      have hy2 : wx.cell? ⟨gx, 2, none⟩ = some (.int .i32 x.f1.f1) := (blk_cell hbx 2).trans rfl
      have hy3 : wx.cell? ⟨gx, 3, none⟩ = some (.bool x.f1.f2) := (blk_cell hbx 3).trans rfl
      have HBX := Aside0.mk hBX
      have HNX := Aside0.mk (Kd.N_below HN.out hBX)
      have HFX := Aside0.mk (Kd.FK_step HFK.out (fun k hk hlt => hBX.block k hlt))
      have HKX : Aside0 (∀ k, w3.heap.size ≤ k → k < w4.heap.size → wx.heap[k]? = w4.heap[k]?) := ⟨fun k h1 h2 => (hBX.block k (by have := HSZ.out; omega)).trans (HKP.out k h1 h2)⟩
      clear hwx hgx hBX hbx hz0 hz1 hz2 hz3
      by_cases e1 : x.f0 = 1
      · have b1 : (x.f0 != 1) = false := bne_eq_false_iff_eq.mpr e1
        have b1' : (x.f0 == 1) = true := beq_iff_eq.mpr e1
        have HK : Aside0 (keepW x = false) := ⟨by unfold keepW; simp [e1]⟩
        clear e1
        go_wp2_with fail
        go_roundg (gk - 1)
        case measure => have := HJ2.out; omega
        case rel =>
          refine ⟨i1, rfl, ⟨j + 1, HI1.out, by have := HJ2.out; omega, below_step HB.out HBX.out, ?_, Nat.le_trans HSZ.out HBX.out.size, HKX.out, HOW.out⟩⟩
          rw [HNT.out, HK.out, if_neg (by decide), List.append_nil]
          exact HNX.out
      · have b1 : (x.f0 != 1) = true := bne_iff_ne.mpr e1
        have b1' : (x.f0 == 1) = false := beq_eq_false_iff_ne.mpr e1
        by_cases e2 : x.f0 = 2
        · have b2 : (x.f0 != 2) = false := bne_eq_false_iff_eq.mpr e2
          have b2' : (x.f0 == 2) = true := beq_iff_eq.mpr e2
          have HK : Aside0 (keepW x = false) := ⟨by unfold keepW; simp [e2]⟩
          clear e1 e2
          go_wp2_with fail
          go_roundg (gk - 1)
          case measure => have := HJ2.out; omega
          case rel =>
            refine ⟨i1, rfl, ⟨j + 1, HI1.out, by have := HJ2.out; omega, below_step HB.out HBX.out, ?_, Nat.le_trans HSZ.out HBX.out.size, HKX.out, HOW.out⟩⟩
            rw [HNT.out, HK.out, if_neg (by decide), List.append_nil]
            exact HNX.out
        · have b2 : (x.f0 != 2) = true := bne_iff_ne.mpr e2
          have b2' : (x.f0 == 2) = false := beq_eq_false_iff_ne.mpr e2
          have HK : Aside0 (keepW x = true) := ⟨by unfold keepW; simp [e1, e2]⟩
          clear e1 e2
          go_wp2_with (at_builtin; refine Kd.N_append k31 (w0 := wa) wa.heap.size rfl (.tmp 60) (.tmp 62) 28 31 (.agg #[.int .i64 0, .slice none 0 0, .int .i32 0, .bool false]) 40 rfl Tryd.underlying28 info31e rfl (by decide) (by decide) (.slice Ac xs.length cc) xs x [.int .i64 x.f0, .slice A2 x.f1.f0.length c2, .int .i32 x.f1.f1, .bool x.f1.f2] (fun _ => True) (fun k => w3.heap.size ≤ k ∧ k < w4.heap.size) rfl rfl HFX.out (fun k hk => ⟨trivial, fun e' => by have := HOW.out k e'.symm; omega⟩) (fun _ _ => trivial) HNX.out (below_step HB.out HBX.out) (below_step HB.out HBX.out).size (by have := HXL.out; omega) ?_; intro v1 wz hN hb hg hat; have HFN := Aside0.mk hN; have HFB := Aside0.mk hb; have HFG : Aside0 (w4.heap.size ≤ wz.heap.size ∧ (∀ k, w3.heap.size ≤ k → k < w4.heap.size → wz.heap[k]? = w4.heap[k]?) ∧ (∀ k, v1.ownBlock = some k → k < w3.heap.size ∨ w4.heap.size ≤ k)) := ⟨⟨by have h1 := hg.size; have h2 := HSZ.out; have h3 := HBX.out.size; omega, fun k h1 h2 => (hg.block k (by have h2 := HSZ.out; have h3 := HBX.out.size; omega) (fun e' => by have := HOW.out k e'.symm; omega)).trans (HKX.out k h1 h2), fun k hk => by rcases hat with e1 | ⟨b', e1, hb'⟩; exact HOW.out k (by rw [← e1]; exact hk); (rw [e1] at hk; injection hk with hk; right; have h2 := HSZ.out; have h3 := HBX.out.size; omega)⟩⟩; clear hN hb hg hat)
          go_roundg (gk - 1)
          case measure => have := HJ2.out; omega
          case rel =>
            refine ⟨i1, rfl, ⟨j + 1, HI1.out, by have := HJ2.out; omega, HFB.out, ?_, HFG.out.1, HFG.out.2.1, HFG.out.2.2⟩⟩
            rw [HNT.out, HK.out, if_pos rfl]
            exact HFN.out
    · have q0 : decide (i < (LB.length : Int)) = false := decide_eq_false hi
      obtain ⟨j, hij, hjk, hB, hN, hsz, hkp, hown⟩ := HJ.out
      have hje : j = LB.length := by omega
      rw [hje, List.take_length] at hN
      obtain ⟨wl, hwl⟩ : ∃ wl, wl = wr := ⟨_, rfl⟩
      rw [← hwl] at hB hN ⊢
      obtain ⟨LF, hLF⟩ : ∃ LF, LF = LB.filter keepW := ⟨_, rfl⟩
      have HLF := Aside0.mk hLF
      have HLFl := Aside0.mk (show LF.length ≤ 40 by rw [hLF]; exact Nat.le_trans (List.length_filter_le _ _) HLBl.out)
      rw [← hLF] at hN
      obtain ⟨L2, hL2⟩ : ∃ L2, L2 = L1 ++ LF := ⟨_, rfl⟩
      have HL2 := Aside0.mk hL2
      have HL2l := Aside0.mk (show L2.length ≤ 100 by rw [hL2, List.length_append]; have := HL1l.out; have := HLFl.out; omega)
      rw [← hL2] at hN
      obtain ⟨Ac, cc, ec⟩ := Kd.N_slice hN
      subst ec
      have HNw := Aside0.mk hN
      have HBw := Aside0.mk hB
      have hbEl := (hB.block _ (blk_lt HBE.out)).trans HBE.out
      have HFil := Aside0.mk (Kd.F_below HFi.out hB)
      have hv0 : wl.cell? ⟨gE, 0, none⟩ = some (.slice Ai (idB m).length ci) := (blk_cell hbEl 0).trans rfl
      have hv1 : wl.cell? ⟨gE, 1, none⟩ = some (.int .i32 p) := (blk_cell hbEl 1).trans rfl
      have hv2 : wl.cell? ⟨gE, 2, none⟩ = some (.bool false) := (blk_cell hbEl 2).trans rfl
      clear hij hjk hje hB hN hsz hkp hown HJ hi hwl hLF hL2 hbEl
      obtain ⟨L, hL⟩ : ∃ L, L = L2 ++ [(⟨3, ⟨idB m, p, false⟩⟩ : S31), ⟨2, ⟨idB m, 0, true⟩⟩, ⟨1, ⟨idB m, p, false⟩⟩, ⟨3, ⟨idB m, p, false⟩⟩] := ⟨_, rfl⟩
      have HLe := Aside0.mk hL
      have HLag := Aside0.mk (show L = agL LA LF ⟨idB m, p, false⟩ by rw [hL, HL2.out, HL1e.out]; rfl)
      have HLn := Aside0.mk (show L.length ≤ 200 by rw [hL, List.length_append]; have := HL2l.out; simp only [List.length_cons, List.length_nil]; omega)
      have HLok : Aside0 (∀ x ∈ L, OkW x) := ⟨by
        have hmm := HM.out
        rw [HLag.out]
        intro x hx
        unfold agL at hx
        simp only [List.mem_append, List.mem_cons, List.not_mem_nil, or_false] at hx
        rcases hx with ((hx | hx | hx) | hx) | hx | hx | hx | hx
        · rw [HLA.out] at hx
          obtain ⟨s, hs, rfl⟩ := List.mem_map.1 hx
          exact mkW_ok s (HX0.out s hs)
        · rw [hx]; exact ok_id m hmm _ _ _
        · rw [hx]; exact ok_id m hmm _ _ _
        · rw [HLF.out] at hx
          have hx2 := (List.mem_filter.1 hx).1
          rw [HLB.out] at hx2
          obtain ⟨s, hs, rfl⟩ := List.mem_map.1 hx2
          exact mkW_ok s (HX1.out s hs)
        · rw [hx]; exact ok_id m hmm _ _ _
        · rw [hx]; exact ok_id m hmm _ _ _
        · rw [hx]; exact ok_id m hmm _ _ _
        · rw [hx]; exact ok_id m hmm _ _ _⟩
      clear hL
      go_upto_region 15 with (at_builtin; refine Kd.N_append_rows k31 (w0 := wa) wa.heap.size rfl (.tmp 65) (.tmp 76) 28 31 (.agg #[.int .i64 0, .slice none 0 0, .int .i32 0, .bool false]) 40 rfl Tryd.underlying28 info31e rfl (by decide) (by decide) (.slice Ac L2.length cc) L2 [(⟨3, ⟨idB m, p, false⟩⟩ : S31), ⟨2, ⟨idB m, 0, true⟩⟩, ⟨1, ⟨idB m, p, false⟩⟩, ⟨3, ⟨idB m, p, false⟩⟩] (some ⟨wl.heap.size, 0, none⟩) 4 4 (fun _ => True) (fun k => k < wa.heap.size ∨ k = wl.heap.size) rfl rfl (Kd.N_alloc HNw.out _) (F_lit (blk_new wl _) (.inr rfl) (fun W' hW => reps_four (x := ⟨3, ⟨idB m, p, false⟩⟩) (y := ⟨2, ⟨idB m, 0, true⟩⟩) (z := ⟨1, ⟨idB m, p, false⟩⟩) (u := ⟨3, ⟨idB m, p, false⟩⟩) HLi.out (Kd.F_alloc HFil.out _ W' (fun k hk hlt => hW k (.inl hk) hlt)) HLi.out (Kd.F_alloc HFil.out _ W' (fun k hk hlt => hW k (.inl hk) hlt)) HLi.out (Kd.F_alloc HFil.out _ W' (fun k hk hlt => hW k (.inl hk) hlt)) HLi.out (Kd.F_alloc HFil.out _ W' (fun k hk hlt => hW k (.inl hk) hlt))) (show (4 : Nat) ≤ 1000000 by decide)) (fun k hk => ⟨trivial, fun e' => by have h1 := Kd.N_base HNw.out k e'.symm; have h2 := Kd.N_lt HNw.out k e'.symm; omega⟩) (fun _ _ => trivial) (below_alloc HBw.out _) (below_alloc HBw.out _).size (by have := HL2l.out; omega) ?_; intro v6 w6 hN hb hg hat; rw [← HLe.out] at hN; obtain ⟨Ad, cd, rfl⟩ := Kd.N_slice hN; have HN6 := Aside0.mk (Kd.N_reads' hN).2.2; have HB6 := Aside0.mk hb; clear hN hb hg hat)
      obtain ⟨T, hT⟩ : ∃ T, T = wRun (sortN (ded L)) st0 L := ⟨_, rfl⟩
      have HT := Aside0.mk hT
      have hTn : T.length = L.length := by rw [hT, wRun_len]
      have qn : ((T.length : Int) != (L.length : Int)) = false := by rw [hTn]; simp
      have qn' : (T.length == L.length) = true := by rw [hTn]; simp
      have qn2 : ((T.length : Int) == (L.length : Int)) = true := by rw [hTn]; simp
      have HTN := Aside0.mk hTn
      clear hT hTn hv0 hv1 hv2
      go_upto_if 84 with (go_at_call 10; refine (wanted_calls w6 Ad cd L HN6.out HLn.out HLok.out).mono ?_; rintro e' wt ⟨vt, rfl, hR, hb⟩; rw [← HT.out] at hR; obtain ⟨At, ct, rfl⟩ := Kd.R_slice hR; have HRt := Aside0.mk (Kd.R_reads' hR).2.2; have HBt := Aside0.mk (below_step HB6.out hb); clear hR hb)
      go_cut [13] (fun v13 we => v13 = .slice At T.length ct ∧ we = wt)
      case first =>
        go_wp2_with fail
        go_meet
        case rel => exact ⟨rfl, rfl⟩
      obtain ⟨rfl, hwt⟩ := hcut
      rw [hwt]
      clear hwt
      go_upto_region 19 with fail
      have hB : ∀ x ∈ LF, x.f0 ≠ 1 ∧ x.f0 ≠ 2 := by
        intro x hx
        rw [HLF.out] at hx
        have h2 := (List.mem_filter.1 hx).2
        unfold keepW at h2
        simpa using h2
      have hlaw := again_law (sortN (ded L)) LA LF ⟨idB m, p, false⟩ rfl (idB_byte m HM.out) hB
      rw [← HLag.out, ← HT.out] at hlaw
      obtain ⟨t0, t4, t3, t2, t1, g0, g4, g3, g2, g1, e0, e4, e4e, e3, e2, e1, eq, ep, eb⟩ := hlaw
      have hLl : L.length = LA.length + LF.length + 6 := by rw [HLag.out, agL_len]
      have hTl : T.length = LA.length + LF.length + 6 := by rw [HTN.out, hLl]
      have hLA0 : LA.length = l0.length := by rw [HLA.out, List.length_map]
      have hAl := HLAl.out
      have hFl := HLFl.out
      have rdT : ∀ (k : Nat) (t : S36), T[k]? = some t → rd_T36 T (k : Int) = t := by
        intro k t h
        unfold rd_T36
        rw [Int.toNat_natCast, List.getD_eq_getElem?_getD, h]
        rfl
      obtain ⟨i0, hi0⟩ : ∃ i0 : Int, i0 = ((LA.length + 1 : Nat) : Int) := ⟨_, rfl⟩
      obtain ⟨i4, hi4⟩ : ∃ i4 : Int, i4 = ((LA.length + LF.length + 2 : Nat) : Int) := ⟨_, rfl⟩
      obtain ⟨i3, hi3⟩ : ∃ i3 : Int, i3 = ((LA.length + LF.length + 3 : Nat) : Int) := ⟨_, rfl⟩
      obtain ⟨i2, hi2⟩ : ∃ i2 : Int, i2 = ((LA.length + LF.length + 4 : Nat) : Int) := ⟨_, rfl⟩
      obtain ⟨i1, hi1⟩ : ∃ i1 : Int, i1 = ((LA.length + LF.length + 5 : Nat) : Int) := ⟨_, rfl⟩
      obtain ⟨ad, _, _, _, _, eA, hc0, _⟩ := at_T36 HRt.out i0 (by omega) (by omega)
      obtain ⟨ad4, Aq, cq, _, _, eA4, hc4, hc4e, hc4p, hc4h, hc4l, _, hLq, hCq, _⟩ := at_T36 HRt.out i4 (by omega) (by omega)
      obtain ⟨ad3, _, _, _, _, eA3, hc3, _⟩ := at_T36 HRt.out i3 (by omega) (by omega)
      obtain ⟨ad2, _, _, _, _, eA2, hc2, _, _, _, hc2l, _⟩ := at_T36 HRt.out i2 (by omega) (by omega)
      obtain ⟨ad1, _, _, _, _, eA1, hc1, _⟩ := at_T36 HRt.out i1 (by omega) (by omega)
      rw [hi0, rdT _ _ g0, ← hi0, e0] at hc0
      rw [hi4, rdT _ _ g4, ← hi4] at hc4 hc4e hc4p hc4h hc4l
      rw [hi4, rdT _ _ g4] at hLq hCq
      rw [e4] at hc4
      rw [e4e] at hc4e hc4p hc4h hLq hCq
      rw [hi3, rdT _ _ g3, ← hi3, e3] at hc3
      rw [hi2, rdT _ _ g2, ← hi2] at hc2 hc2l
      rw [e2] at hc2
      rw [hi1, rdT _ _ g1, ← hi1, e1] at hc1
      obtain ⟨q2, hq2⟩ : ∃ q, q = t2.f2 := ⟨_, rfl⟩
      obtain ⟨q4, hq4⟩ : ∃ q, q = t4.f2 := ⟨_, rfl⟩
      rw [← hq2] at hc2l eq ep
      rw [← hq4] at hc4l eq eb
      subst eA
      cases eA4
      cases eA3
      cases eA2
      cases eA1
      have j00 : ((0 : Int) ≤ i0) = True := eq_true (by omega)
      have j01 : (i0 < (T.length : Int)) = True := eq_true (by omega)
      have j40 : ((0 : Int) ≤ i4) = True := eq_true (by omega)
      have j41 : (i4 < (T.length : Int)) = True := eq_true (by omega)
      have j30 : ((0 : Int) ≤ i3) = True := eq_true (by omega)
      have j31 : (i3 < (T.length : Int)) = True := eq_true (by omega)
      have j20 : ((0 : Int) ≤ i2) = True := eq_true (by omega)
      have j21 : (i2 < (T.length : Int)) = True := eq_true (by omega)
      have j10 : ((0 : Int) ≤ i1) = True := eq_true (by omega)
      have j11 : (i1 < (T.length : Int)) = True := eq_true (by omega)
      have x0 : (l0.length : Int) + 1 = i0 := by omega
      have x4 : (L.length : Int) - 4 = i4 := by omega
      have x3 : (L.length : Int) - 3 = i3 := by omega
      have x2 : (L.length : Int) - 2 = i2 := by omega
      have x1 : (L.length : Int) - 1 = i1 := by omega
      have r0 : 0 ≤ i0 ∧ i0 ≤ 1000 := by omega
      have r4 : 0 ≤ i4 ∧ i4 ≤ 1000 := by omega
      have r3 : 0 ≤ i3 ∧ i3 ≤ 1000 := by omega
      have r2 : 0 ≤ i2 ∧ i2 ≤ 1000 := by omega
      have r1 : 0 ≤ i1 ∧ i1 ≤ 1000 := by omega
      have rq : 0 ≤ q2 ∧ q2 ≤ 1000 ∧ q4 - 1 = q2 := by omega
      have wrp : ∀ z : Int, 0 ≤ z ∧ z ≤ 1000 → wrap64 z = z := by intro z hz; unfold wrap64; omega
      have y0 : wrap64 ((l0.length : Int) + 1) = i0 := by rw [x0]; exact wrp _ r0
      have y4 : wrap64 ((L.length : Int) - 4) = i4 := by rw [x4]; exact wrp _ r4
      have y3 : wrap64 ((L.length : Int) - 3) = i3 := by rw [x3]; exact wrp _ r3
      have y2 : wrap64 ((L.length : Int) - 2) = i2 := by rw [x2]; exact wrp _ r2
      have y1 : wrap64 ((L.length : Int) - 1) = i1 := by rw [x1]; exact wrp _ r1
      have yq : wrap64 (q4 - 1) = q2 := by rw [rq.2.2]; exact wrp _ ⟨rq.1, rq.2.1⟩
      have v0 : IntKind.i64.wrap ((l0.length : Int) + 1) = i0 := (i64_w _).trans y0
      have v4 : IntKind.i64.wrap ((L.length : Int) - 4) = i4 := (i64_w _).trans y4
      have v3 : IntKind.i64.wrap ((L.length : Int) - 3) = i3 := (i64_w _).trans y3
      have v2 : IntKind.i64.wrap ((L.length : Int) - 2) = i2 := (i64_w _).trans y2
      have v1 : IntKind.i64.wrap ((L.length : Int) - 1) = i1 := (i64_w _).trans y1
      have vq : IntKind.i64.wrap (q4 - 1) = q2 := (i64_w _).trans yq
      have hbEt := (HBt.out.block _ (blk_lt HBE.out)).trans HBE.out
      have HCq : Aside0 (Kd.C (Kd.int .u8) wt.drew Aq (idB m).length (idB m)) := ⟨Kd.C_drew hCq⟩
      have HLq : Aside0 ((idB m).length ≤ cq) := ⟨hLq⟩
      have HCi : Aside0 (Kd.C (Kd.int .u8) wt.drew Ai (idB m).length (idB m)) := ⟨Kd.C_drew (Kd.F_now (Kd.F_below HFi.out HBt.out))⟩
      have HBf := Aside0.mk (below_drew (below_step HBa.out HBt.out))
      have hs0 : wt.drew.cell? (ad.add (i0.toNat * 6)) = some (.bool true) := hc0
      have hs1 : wt.drew.cell? (ad.add (i4.toNat * 6)) = some (.bool true) := hc4
      have hs2 : wt.drew.cell? ⟨(ad.add (i4.toNat * 6)).block, (ad.add (i4.toNat * 6)).off + 1, none⟩ = some (.slice Aq (idB m).length cq) := hc4e
      have hs3 : wt.drew.cell? ⟨(ad.add (i4.toNat * 6)).block, (ad.add (i4.toNat * 6)).off + 1 + 1, none⟩ = some (.int .i32 p) := hc4p
      have hs4 : wt.drew.cell? ⟨(ad.add (i4.toNat * 6)).block, (ad.add (i4.toNat * 6)).off + 1 + 2, none⟩ = some (.bool false) := hc4h
      have hs5 : wt.drew.cell? ⟨gE, 0, none⟩ = some (.slice Ai (idB m).length ci) := (blk_cell (blk_drew hbEt) 0).trans rfl
      have hs6 : wt.drew.cell? ⟨gE, 1, none⟩ = some (.int .i32 p) := (blk_cell (blk_drew hbEt) 1).trans rfl
      have hs7 : wt.drew.cell? ⟨gE, 2, none⟩ = some (.bool false) := (blk_cell (blk_drew hbEt) 2).trans rfl
      have hs8 : wt.drew.cell? (ad.add (i3.toNat * 6)) = some (.bool false) := hc3
      have hs9 : wt.drew.cell? (ad.add (i2.toNat * 6)) = some (.bool true) := hc2
      have hs10 : wt.drew.cell? (ad.add (i1.toNat * 6)) = some (.bool false) := hc1
      have hs11 : wt.drew.cell? ⟨(ad.add (i2.toNat * 6)).block, (ad.add (i2.toNat * 6)).off + 4, none⟩ = some (.int .i64 q2) := hc2l
      have hs12 : wt.drew.cell? ⟨(ad.add (i4.toNat * 6)).block, (ad.add (i4.toNat * 6)).off + 4, none⟩ = some (.int .i64 q4) := hc4l
      clear hbEt hB g0 g4 g3 g2 g1 e0 e4 e4e e3 e2 e1 eq ep eb hLl hTl hLA0 hAl hFl rdT hi0 hi4 hi3 hi2 hi1 hc0 hc4 hc4e hc4p hc4h hc4l hLq hCq hc3 hc2 hc2l hc1 hq2 hq4 x0 x4 x3 x2 x1 r0 r4 r3 r2 r1 rq wrp
      as_aux_lemma =>
      refine start_ (n := 71) (S := fun w' => w'.cell? (ad.add (i0.toNat * 6)) = some (.bool true) ∧ w'.cell? (ad.add (i4.toNat * 6)) = some (.bool true) ∧ w'.cell? ⟨(ad.add (i4.toNat * 6)).block, (ad.add (i4.toNat * 6)).off + 1, none⟩ = some (.slice Aq (idB m).length cq) ∧ w'.cell? ⟨(ad.add (i4.toNat * 6)).block, (ad.add (i4.toNat * 6)).off + 1 + 1, none⟩ = some (.int .i32 p) ∧ w'.cell? ⟨(ad.add (i4.toNat * 6)).block, (ad.add (i4.toNat * 6)).off + 1 + 2, none⟩ = some (.bool false) ∧ w'.cell? ⟨gE, 0, none⟩ = some (.slice Ai (idB m).length ci) ∧ w'.cell? ⟨gE, 1, none⟩ = some (.int .i32 p) ∧ w'.cell? ⟨gE, 2, none⟩ = some (.bool false) ∧ w'.cell? (ad.add (i3.toNat * 6)) = some (.bool false) ∧ w'.cell? (ad.add (i2.toNat * 6)) = some (.bool true) ∧ w'.cell? (ad.add (i1.toNat * 6)) = some (.bool false) ∧ w'.cell? ⟨(ad.add (i2.toNat * 6)).block, (ad.add (i2.toNat * 6)).off + 4, none⟩ = some (.int .i64 q2) ∧ w'.cell? ⟨(ad.add (i4.toNat * 6)).block, (ad.add (i4.toNat * 6)).off + 4, none⟩ = some (.int .i64 q4)) (ds := []) #[false, false, false, false, false, false, false, false, false, false, false, false, false, false, false, false, false, false, false, false, false, false, false, false, false, false, false, false, false, false, false, false, false, false, false, false, false, false, false, false, false, false, false, false, false, false, false, false, false, false, false, false, false, false, false, false, false, false, false, false, false, false, false, false, false, false, false, false, false, false, false] (by kernel_rfl) rfl rfl ⟨hs0, hs1, hs2, hs3, hs4, hs5, hs6, hs7, hs8, hs9, hs10, hs11, hs12⟩ (fun hHeld => ?_)
      refine pure_ (i := 0) (N := some 87) (v := ?_) (a' := ?_) #[true, false, false, false, false, false, false, false, false, false, false, false, false, false, false, false, false, false, false, false, false, false, false, false, false, false, false, false, false, false, false, false, false, false, false, false, false, false, false, false, false, false, false, false, false, false, false, false, false, false, false, false, false, false, false, false, false, false, false, false, false, false, false, false, false, false, false, false, false, false, false] rfl rfl (by kernel_rfl) (fun _ _ _ h => h) (Or.inl ⟨by rfl, ?_⟩) ?_ ?_
      rotate_left
      · intro w'
        go_simp
        with_reducible rfl
      rotate_left
      · simp only [Act.put, List.setIfInBounds_toArray, List.set_cons_zero, List.set_cons_succ, i64_w, i32_w]
        rfl
      refine pure_ (i := 1) (N := some 88) (v := ?_) (a' := ?_) #[true, true, false, false, false, false, false, false, false, false, false, false, false, false, false, false, false, false, false, false, false, false, false, false, false, false, false, false, false, false, false, false, false, false, false, false, false, false, false, false, false, false, false, false, false, false, false, false, false, false, false, false, false, false, false, false, false, false, false, false, false, false, false, false, false, false, false, false, false, false, false] rfl rfl (by kernel_rfl) (fun _ _ _ h => h) (Or.inl ⟨by rfl, ?_⟩) ?_ ?_
      rotate_left
      · intro w'
        go_simp
        with_reducible rfl
      rotate_left
      · simp only [Act.put, List.setIfInBounds_toArray, List.set_cons_zero, List.set_cons_succ, i64_w, i32_w]
        rfl
      refine pure_ (i := 2) (N := some 89) (v := ?_) (a' := ?_) #[true, true, true, false, false, false, false, false, false, false, false, false, false, false, false, false, false, false, false, false, false, false, false, false, false, false, false, false, false, false, false, false, false, false, false, false, false, false, false, false, false, false, false, false, false, false, false, false, false, false, false, false, false, false, false, false, false, false, false, false, false, false, false, false, false, false, false, false, false, false, false] rfl rfl (by kernel_rfl) (fun _ _ _ h => h) (Or.inl ⟨by rfl, ?_⟩) ?_ ?_
      rotate_left
      · intro w'
        go_simp
        with_reducible rfl
      rotate_left
      · simp only [Act.put, List.setIfInBounds_toArray, List.set_cons_zero, List.set_cons_succ, i64_w, i32_w]
        rfl
      refine pure_ (i := 3) (N := some 90) (v := ?_) (a' := ?_) #[true, true, true, true, false, false, false, false, false, false, false, false, false, false, false, false, false, false, false, false, false, false, false, false, false, false, false, false, false, false, false, false, false, false, false, false, false, false, false, false, false, false, false, false, false, false, false, false, false, false, false, false, false, false, false, false, false, false, false, false, false, false, false, false, false, false, false, false, false, false, false] rfl rfl (by kernel_rfl) (fun _ _ _ h => h) (Or.inl ⟨by rfl, ?_⟩) ?_ ?_
      rotate_left
      · intro w'
        go_simp
        with_reducible rfl
      rotate_left
      · simp only [Act.put, List.setIfInBounds_toArray, List.set_cons_zero, List.set_cons_succ, i64_w, i32_w]
        rfl
      refine pure_ (i := 4) (N := some 91) (v := ?_) (a' := ?_) #[true, true, true, true, true, false, false, false, false, false, false, false, false, false, false, false, false, false, false, false, false, false, false, false, false, false, false, false, false, false, false, false, false, false, false, false, false, false, false, false, false, false, false, false, false, false, false, false, false, false, false, false, false, false, false, false, false, false, false, false, false, false, false, false, false, false, false, false, false, false, false] rfl rfl (by kernel_rfl) (fun _ _ _ h => h) (Or.inl ⟨by rfl, ?_⟩) ?_ ?_
      rotate_left
      · intro w'
        go_simp
        with_reducible rfl
      rotate_left
      · simp only [Act.put, List.setIfInBounds_toArray, List.set_cons_zero, List.set_cons_succ, i64_w, i32_w]
        rfl
      refine pure_ (i := 5) (N := some 92) (v := ?_) (a' := ?_) #[true, true, true, true, true, true, false, false, false, false, false, false, false, false, false, false, false, false, false, false, false, false, false, false, false, false, false, false, false, false, false, false, false, false, false, false, false, false, false, false, false, false, false, false, false, false, false, false, false, false, false, false, false, false, false, false, false, false, false, false, false, false, false, false, false, false, false, false, false, false, false] rfl rfl (by kernel_rfl) (fun _ _ _ h => h) (Or.inl ⟨by rfl, ?_⟩) ?_ ?_
      rotate_left
      · intro w'
        go_simp
        with_reducible rfl
      rotate_left
      · simp only [Act.put, List.setIfInBounds_toArray, List.set_cons_zero, List.set_cons_succ, i64_w, i32_w]
        rfl
      refine take_ (i := 6) (N := some 93) (v := ?_) (a' := ?_) #[true, true, true, true, true, true, true, false, false, false, false, false, false, false, false, false, false, false, false, false, false, false, false, false, false, false, false, false, false, false, false, false, false, false, false, false, false, false, false, false, false, false, false, false, false, false, false, false, false, false, false, false, false, false, false, false, false, false, false, false, false, false, false, false, false, false, false, false, false, false, false] rfl rfl (by kernel_rfl) (fun _ _ _ h => h) (Or.inl ⟨by rfl, ?_⟩) hHeld ?_ ?_
      rotate_left
      · rintro w' ⟨s0, s1, s2, s3, s4, s5, s6, s7, s8, s9, s10, s11, s12⟩
        go_simp
        with_reducible rfl
      rotate_left
      · simp only [Act.put, List.setIfInBounds_toArray, List.set_cons_zero, List.set_cons_succ, i64_w, i32_w]
        rfl
      refine pure_ (i := 7) (N := some 94) (v := ?_) (a' := ?_) #[true, true, true, true, true, true, true, true, false, false, false, false, false, false, false, false, false, false, false, false, false, false, false, false, false, false, false, false, false, false, false, false, false, false, false, false, false, false, false, false, false, false, false, false, false, false, false, false, false, false, false, false, false, false, false, false, false, false, false, false, false, false, false, false, false, false, false, false, false, false, false] rfl rfl (by kernel_rfl) (fun _ _ _ h => h) (Or.inl ⟨by rfl, ?_⟩) ?_ ?_
      rotate_left
      · intro w'
        go_simp
        with_reducible rfl
      rotate_left
      · simp only [Act.put, List.setIfInBounds_toArray, List.set_cons_zero, List.set_cons_succ, i64_w, i32_w]
        rfl
      refine pure_ (i := 8) (N := some 95) (v := ?_) (a' := ?_) #[true, true, true, true, true, true, true, true, true, false, false, false, false, false, false, false, false, false, false, false, false, false, false, false, false, false, false, false, false, false, false, false, false, false, false, false, false, false, false, false, false, false, false, false, false, false, false, false, false, false, false, false, false, false, false, false, false, false, false, false, false, false, false, false, false, false, false, false, false, false, false] rfl rfl (by kernel_rfl) (fun _ _ _ h => h) (Or.inl ⟨by rfl, ?_⟩) ?_ ?_
      rotate_left
      · intro w'
        go_simp
        with_reducible rfl
      rotate_left
      · simp only [Act.put, List.setIfInBounds_toArray, List.set_cons_zero, List.set_cons_succ, i64_w, i32_w]
        rfl
      refine pure_ (i := 9) (N := some 96) (v := ?_) (a' := ?_) #[true, true, true, true, true, true, true, true, true, true, false, false, false, false, false, false, false, false, false, false, false, false, false, false, false, false, false, false, false, false, false, false, false, false, false, false, false, false, false, false, false, false, false, false, false, false, false, false, false, false, false, false, false, false, false, false, false, false, false, false, false, false, false, false, false, false, false, false, false, false, false] rfl rfl (by kernel_rfl) (fun _ _ _ h => h) (Or.inl ⟨by rfl, ?_⟩) ?_ ?_
      rotate_left
      · intro w'
        go_simp
        with_reducible rfl
      rotate_left
      · simp only [Act.put, List.setIfInBounds_toArray, List.set_cons_zero, List.set_cons_succ, i64_w, i32_w]
        rfl
      refine pure_ (i := 10) (N := some 97) (v := ?_) (a' := ?_) #[true, true, true, true, true, true, true, true, true, true, true, false, false, false, false, false, false, false, false, false, false, false, false, false, false, false, false, false, false, false, false, false, false, false, false, false, false, false, false, false, false, false, false, false, false, false, false, false, false, false, false, false, false, false, false, false, false, false, false, false, false, false, false, false, false, false, false, false, false, false, false] rfl rfl (by kernel_rfl) (fun _ _ _ h => h) (Or.inl ⟨by rfl, ?_⟩) ?_ ?_
      rotate_left
      · intro w'
        go_simp
        with_reducible rfl
      rotate_left
      · simp only [Act.put, List.setIfInBounds_toArray, List.set_cons_zero, List.set_cons_succ, i64_w, i32_w]
        rfl
      as_aux_lemma =>
      refine pure_ (i := 11) (N := some 98) (v := ?_) (a' := ?_) #[true, true, true, true, true, true, true, true, true, true, true, true, false, false, false, false, false, false, false, false, false, false, false, false, false, false, false, false, false, false, false, false, false, false, false, false, false, false, false, false, false, false, false, false, false, false, false, false, false, false, false, false, false, false, false, false, false, false, false, false, false, false, false, false, false, false, false, false, false, false, false] rfl rfl (by kernel_rfl) (fun _ _ _ h => h) (Or.inl ⟨by rfl, ?_⟩) ?_ ?_
      rotate_left
      · intro w'
        go_simp
        with_reducible rfl
      rotate_left
      · simp only [Act.put, List.setIfInBounds_toArray, List.set_cons_zero, List.set_cons_succ, i64_w, i32_w]
        rfl
      refine pure_ (i := 12) (N := some 99) (v := ?_) (a' := ?_) #[true, true, true, true, true, true, true, true, true, true, true, true, true, false, false, false, false, false, false, false, false, false, false, false, false, false, false, false, false, false, false, false, false, false, false, false, false, false, false, false, false, false, false, false, false, false, false, false, false, false, false, false, false, false, false, false, false, false, false, false, false, false, false, false, false, false, false, false, false, false, false] rfl rfl (by kernel_rfl) (fun _ _ _ h => h) (Or.inl ⟨by rfl, ?_⟩) ?_ ?_
      rotate_left
      · intro w'
        go_simp
        with_reducible rfl
      rotate_left
      · simp only [Act.put, List.setIfInBounds_toArray, List.set_cons_zero, List.set_cons_succ, i64_w, i32_w]
        rfl
      refine take_ (i := 13) (N := some 100) (v := ?_) (a' := ?_) #[true, true, true, true, true, true, true, true, true, true, true, true, true, true, false, false, false, false, false, false, false, false, false, false, false, false, false, false, false, false, false, false, false, false, false, false, false, false, false, false, false, false, false, false, false, false, false, false, false, false, false, false, false, false, false, false, false, false, false, false, false, false, false, false, false, false, false, false, false, false, false] rfl rfl (by kernel_rfl) (fun _ _ _ h => h) (Or.inl ⟨by rfl, ?_⟩) hHeld ?_ ?_
      rotate_left
      · rintro w' ⟨s0, s1, s2, s3, s4, s5, s6, s7, s8, s9, s10, s11, s12⟩
        go_simp
        with_reducible rfl
      rotate_left
      · simp only [Act.put, List.setIfInBounds_toArray, List.set_cons_zero, List.set_cons_succ, i64_w, i32_w]
        rfl
      refine pure_ (i := 14) (N := some 101) (v := ?_) (a' := ?_) #[true, true, true, true, true, true, true, true, true, true, true, true, true, true, true, false, false, false, false, false, false, false, false, false, false, false, false, false, false, false, false, false, false, false, false, false, false, false, false, false, false, false, false, false, false, false, false, false, false, false, false, false, false, false, false, false, false, false, false, false, false, false, false, false, false, false, false, false, false, false, false] rfl rfl (by kernel_rfl) (fun _ _ _ h => h) (Or.inl ⟨by rfl, ?_⟩) ?_ ?_
      rotate_left
      · intro w'
        go_simp
        with_reducible rfl
      rotate_left
      · simp only [Act.put, List.setIfInBounds_toArray, List.set_cons_zero, List.set_cons_succ, i64_w, i32_w]
        rfl
      refine pure_ (i := 15) (N := some 102) (v := ?_) (a' := ?_) #[true, true, true, true, true, true, true, true, true, true, true, true, true, true, true, true, false, false, false, false, false, false, false, false, false, false, false, false, false, false, false, false, false, false, false, false, false, false, false, false, false, false, false, false, false, false, false, false, false, false, false, false, false, false, false, false, false, false, false, false, false, false, false, false, false, false, false, false, false, false, false] rfl rfl (by kernel_rfl) (fun _ _ _ h => h) (Or.inl ⟨by rfl, ?_⟩) ?_ ?_
      rotate_left
      · intro w'
        go_simp
        with_reducible rfl
      rotate_left
      · simp only [Act.put, List.setIfInBounds_toArray, List.set_cons_zero, List.set_cons_succ, i64_w, i32_w]
        rfl
      refine pure_ (i := 16) (N := some 103) (v := ?_) (a' := ?_) #[true, true, true, true, true, true, true, true, true, true, true, true, true, true, true, true, true, false, false, false, false, false, false, false, false, false, false, false, false, false, false, false, false, false, false, false, false, false, false, false, false, false, false, false, false, false, false, false, false, false, false, false, false, false, false, false, false, false, false, false, false, false, false, false, false, false, false, false, false, false, false] rfl rfl (by kernel_rfl) (fun _ _ _ h => h) (Or.inl ⟨by rfl, ?_⟩) ?_ ?_
      rotate_left
      · intro w'
        go_simp
        with_reducible rfl
      rotate_left
      · simp only [Act.put, List.setIfInBounds_toArray, List.set_cons_zero, List.set_cons_succ, i64_w, i32_w]
        rfl
      refine pure_ (i := 17) (N := some 104) (v := ?_) (a' := ?_) #[true, true, true, true, true, true, true, true, true, true, true, true, true, true, true, true, true, true, false, false, false, false, false, false, false, false, false, false, false, false, false, false, false, false, false, false, false, false, false, false, false, false, false, false, false, false, false, false, false, false, false, false, false, false, false, false, false, false, false, false, false, false, false, false, false, false, false, false, false, false, false] rfl rfl (by kernel_rfl) (fun _ _ _ h => h) (Or.inl ⟨by rfl, ?_⟩) ?_ ?_
      rotate_left
      · intro w'
        go_simp
        with_reducible rfl
      rotate_left
      · simp only [Act.put, List.setIfInBounds_toArray, List.set_cons_zero, List.set_cons_succ, i64_w, i32_w]
        rfl
      refine pure_ (i := 18) (N := some 105) (v := ?_) (a' := ?_) #[true, true, true, true, true, true, true, true, true, true, true, true, true, true, true, true, true, true, true, false, false, false, false, false, false, false, false, false, false, false, false, false, false, false, false, false, false, false, false, false, false, false, false, false, false, false, false, false, false, false, false, false, false, false, false, false, false, false, false, false, false, false, false, false, false, false, false, false, false, false, false] rfl rfl (by kernel_rfl) (fun _ _ _ h => h) (Or.inl ⟨by rfl, ?_⟩) ?_ ?_
      rotate_left
      · intro w'
        go_simp
        with_reducible rfl
      rotate_left
      · simp only [Act.put, List.setIfInBounds_toArray, List.set_cons_zero, List.set_cons_succ, i64_w, i32_w]
        rfl
      refine pure_ (i := 19) (N := some 106) (v := ?_) (a' := ?_) #[true, true, true, true, true, true, true, true, true, true, true, true, true, true, true, true, true, true, true, true, false, false, false, false, false, false, false, false, false, false, false, false, false, false, false, false, false, false, false, false, false, false, false, false, false, false, false, false, false, false, false, false, false, false, false, false, false, false, false, false, false, false, false, false, false, false, false, false, false, false, false] rfl rfl (by kernel_rfl) (fun _ _ _ h => h) (Or.inl ⟨by rfl, ?_⟩) ?_ ?_
      rotate_left
      · intro w'
        go_simp
        with_reducible rfl
      rotate_left
      · simp only [Act.put, List.setIfInBounds_toArray, List.set_cons_zero, List.set_cons_succ, i64_w, i32_w]
        rfl
      refine pure_ (i := 20) (N := some 107) (v := ?_) (a' := ?_) #[true, true, true, true, true, true, true, true, true, true, true, true, true, true, true, true, true, true, true, true, true, false, false, false, false, false, false, false, false, false, false, false, false, false, false, false, false, false, false, false, false, false, false, false, false, false, false, false, false, false, false, false, false, false, false, false, false, false, false, false, false, false, false, false, false, false, false, false, false, false, false] rfl rfl (by kernel_rfl) (fun _ _ _ h => h) (Or.inl ⟨by rfl, ?_⟩) ?_ ?_
      rotate_left
      · intro w'
        go_simp
        with_reducible rfl
      rotate_left
      · simp only [Act.put, List.setIfInBounds_toArray, List.set_cons_zero, List.set_cons_succ, i64_w, i32_w]
        rfl
      refine take_ (i := 21) (N := some 108) (v := ?_) (a' := ?_) #[true, true, true, true, true, true, true, true, true, true, true, true, true, true, true, true, true, true, true, true, true, true, false, false, false, false, false, false, false, false, false, false, false, false, false, false, false, false, false, false, false, false, false, false, false, false, false, false, false, false, false, false, false, false, false, false, false, false, false, false, false, false, false, false, false, false, false, false, false, false, false] rfl rfl (by kernel_rfl) (fun _ _ _ h => h) (Or.inl ⟨by rfl, ?_⟩) hHeld ?_ ?_
      rotate_left
      · rintro w' ⟨s0, s1, s2, s3, s4, s5, s6, s7, s8, s9, s10, s11, s12⟩
        go_simp
        with_reducible rfl
      rotate_left
      · simp only [Act.put, List.setIfInBounds_toArray, List.set_cons_zero, List.set_cons_succ, i64_w, i32_w]
        rfl
      refine take_ (i := 22) (N := some 109) (v := ?_) (a' := ?_) #[true, true, true, true, true, true, true, true, true, true, true, true, true, true, true, true, true, true, true, true, true, true, true, false, false, false, false, false, false, false, false, false, false, false, false, false, false, false, false, false, false, false, false, false, false, false, false, false, false, false, false, false, false, false, false, false, false, false, false, false, false, false, false, false, false, false, false, false, false, false, false] rfl rfl (by kernel_rfl) (fun _ _ _ h => h) (Or.inl ⟨by rfl, ?_⟩) hHeld ?_ ?_
      rotate_left
      · rintro w' ⟨s0, s1, s2, s3, s4, s5, s6, s7, s8, s9, s10, s11, s12⟩
        go_simp
        with_reducible rfl
      rotate_left
      · simp only [Act.put, List.setIfInBounds_toArray, List.set_cons_zero, List.set_cons_succ, i64_w, i32_w]
        rfl
      as_aux_lemma =>
      refine one_ (i := 23) (N := some 110) #[true, true, true, true, true, true, true, true, true, true, true, true, true, true, true, true, true, true, true, true, true, true, true, true, false, false, false, false, false, false, false, false, false, false, false, false, false, false, false, false, false, false, false, false, false, false, false, false, false, false, false, false, false, false, false, false, false, false, false, false, false, false, false, false, false, false, false, false, false, false, false] rfl rfl (by kernel_rfl) (by decide) (fun K hK => ?_)
      refine goes_ Tryd.func11 (by kernel_rfl) rfl #[.agg #[.slice Aq (idB m).length cq, .int .i32 p, .bool false], .agg #[.slice Ai (idB m).length ci, .int .i32 p, .bool false]] (by rfl) rfl rfl (by simp only [List.map_toArray, List.map_cons, List.map_nil]; rfl) ?_
      with_reducible refine (laws_sameEntry.calls Aq cq (idB m) p false Ai ci (idB m) p false true wt.drew HCq.out HLq.out HCi.out HLi.out (same_refl _ _ _)).mono ?_
      rintro e' w8 ⟨rfl, hb⟩
      have HB8 := Aside0.mk hb
      have hy0 := (hb.cell (World.block_lt_of_cell? wt.drew _ hs0)).trans hs0
      have hy1 := (hb.cell (World.block_lt_of_cell? wt.drew _ hs1)).trans hs1
      have hy2 := (hb.cell (World.block_lt_of_cell? wt.drew _ hs2)).trans hs2
      have hy3 := (hb.cell (World.block_lt_of_cell? wt.drew _ hs3)).trans hs3
      have hy4 := (hb.cell (World.block_lt_of_cell? wt.drew _ hs4)).trans hs4
      have hy5 := (hb.cell (World.block_lt_of_cell? wt.drew _ hs5)).trans hs5
      have hy6 := (hb.cell (World.block_lt_of_cell? wt.drew _ hs6)).trans hs6
      have hy7 := (hb.cell (World.block_lt_of_cell? wt.drew _ hs7)).trans hs7
      have hy8 := (hb.cell (World.block_lt_of_cell? wt.drew _ hs8)).trans hs8
      have hy9 := (hb.cell (World.block_lt_of_cell? wt.drew _ hs9)).trans hs9
      have hy10 := (hb.cell (World.block_lt_of_cell? wt.drew _ hs10)).trans hs10
      have hy11 := (hb.cell (World.block_lt_of_cell? wt.drew _ hs11)).trans hs11
      have hy12 := (hb.cell (World.block_lt_of_cell? wt.drew _ hs12)).trans hs12
      clear hb
      refine ⟨_, rfl, ?_⟩
      refine hK.out _ _ ⟨hy0, hy1, hy2, hy3, hy4, hy5, hy6, hy7, hy8, hy9, hy10, hy11, hy12⟩ (fun hHeld => ?_)
      clear hK K
      refine norm_ (a' := ?_) ?_ ?_
      rotate_left
      · show Act.put _ (some 110) _ = _
        simp only [Act.put, List.setIfInBounds_toArray, List.set_cons_zero, List.set_cons_succ, i64_w, i32_w]
        rfl
      refine pure_ (i := 24) (N := some 111) (v := ?_) (a' := ?_) #[true, true, true, true, true, true, true, true, true, true, true, true, true, true, true, true, true, true, true, true, true, true, true, true, true, false, false, false, false, false, false, false, false, false, false, false, false, false, false, false, false, false, false, false, false, false, false, false, false, false, false, false, false, false, false, false, false, false, false, false, false, false, false, false, false, false, false, false, false, false, false] rfl rfl (by kernel_rfl) (fun _ _ _ h => h) (Or.inl ⟨by rfl, ?_⟩) ?_ ?_
      rotate_left
      · intro w'
        go_simp
        with_reducible rfl
      rotate_left
      · simp only [Act.put, List.setIfInBounds_toArray, List.set_cons_zero, List.set_cons_succ, i64_w, i32_w]
        rfl
      refine pure_ (i := 25) (N := some 112) (v := ?_) (a' := ?_) #[true, true, true, true, true, true, true, true, true, true, true, true, true, true, true, true, true, true, true, true, true, true, true, true, true, true, false, false, false, false, false, false, false, false, false, false, false, false, false, false, false, false, false, false, false, false, false, false, false, false, false, false, false, false, false, false, false, false, false, false, false, false, false, false, false, false, false, false, false, false, false] rfl rfl (by kernel_rfl) (fun _ _ _ h => h) (Or.inl ⟨by rfl, ?_⟩) ?_ ?_
      rotate_left
      · intro w'
        go_simp
        with_reducible rfl
      rotate_left
      · simp only [Act.put, List.setIfInBounds_toArray, List.set_cons_zero, List.set_cons_succ, i64_w, i32_w]
        rfl
      refine pure_ (i := 26) (N := some 113) (v := ?_) (a' := ?_) #[true, true, true, true, true, true, true, true, true, true, true, true, true, true, true, true, true, true, true, true, true, true, true, true, true, true, true, false, false, false, false, false, false, false, false, false, false, false, false, false, false, false, false, false, false, false, false, false, false, false, false, false, false, false, false, false, false, false, false, false, false, false, false, false, false, false, false, false, false, false, false] rfl rfl (by kernel_rfl) (fun _ _ _ h => h) (Or.inl ⟨by rfl, ?_⟩) ?_ ?_
      rotate_left
      · intro w'
        go_simp
        with_reducible rfl
      rotate_left
      · simp only [Act.put, List.setIfInBounds_toArray, List.set_cons_zero, List.set_cons_succ, i64_w, i32_w]
        rfl
      refine pure_ (i := 27) (N := some 114) (v := ?_) (a' := ?_) #[true, true, true, true, true, true, true, true, true, true, true, true, true, true, true, true, true, true, true, true, true, true, true, true, true, true, true, true, false, false, false, false, false, false, false, false, false, false, false, false, false, false, false, false, false, false, false, false, false, false, false, false, false, false, false, false, false, false, false, false, false, false, false, false, false, false, false, false, false, false, false] rfl rfl (by kernel_rfl) (fun _ _ _ h => h) (Or.inl ⟨by rfl, ?_⟩) ?_ ?_
      rotate_left
      · intro w'
        go_simp
        with_reducible rfl
      rotate_left
      · simp only [Act.put, List.setIfInBounds_toArray, List.set_cons_zero, List.set_cons_succ, i64_w, i32_w]
        rfl
      refine pure_ (i := 28) (N := some 115) (v := ?_) (a' := ?_) #[true, true, true, true, true, true, true, true, true, true, true, true, true, true, true, true, true, true, true, true, true, true, true, true, true, true, true, true, true, false, false, false, false, false, false, false, false, false, false, false, false, false, false, false, false, false, false, false, false, false, false, false, false, false, false, false, false, false, false, false, false, false, false, false, false, false, false, false, false, false, false] rfl rfl (by kernel_rfl) (fun _ _ _ h => h) (Or.inl ⟨by rfl, ?_⟩) ?_ ?_
      rotate_left
      · intro w'
        go_simp
        with_reducible rfl
      rotate_left
      · simp only [Act.put, List.setIfInBounds_toArray, List.set_cons_zero, List.set_cons_succ, i64_w, i32_w]
        rfl
      refine pure_ (i := 29) (N := some 116) (v := ?_) (a' := ?_) #[true, true, true, true, true, true, true, true, true, true, true, true, true, true, true, true, true, true, true, true, true, true, true, true, true, true, true, true, true, true, false, false, false, false, false, false, false, false, false, false, false, false, false, false, false, false, false, false, false, false, false, false, false, false, false, false, false, false, false, false, false, false, false, false, false, false, false, false, false, false, false] rfl rfl (by kernel_rfl) (fun _ _ _ h => h) (Or.inl ⟨by rfl, ?_⟩) ?_ ?_
      rotate_left
      · intro w'
        go_simp
        with_reducible rfl
      rotate_left
      · simp only [Act.put, List.setIfInBounds_toArray, List.set_cons_zero, List.set_cons_succ, i64_w, i32_w]
        rfl
      refine pure_ (i := 30) (N := some 117) (v := ?_) (a' := ?_) #[true, true, true, true, true, true, true, true, true, true, true, true, true, true, true, true, true, true, true, true, true, true, true, true, true, true, true, true, true, true, true, false, false, false, false, false, false, false, false, false, false, false, false, false, false, false, false, false, false, false, false, false, false, false, false, false, false, false, false, false, false, false, false, false, false, false, false, false, false, false, false] rfl rfl (by kernel_rfl) (fun _ _ _ h => h) (Or.inl ⟨by rfl, ?_⟩) ?_ ?_
      rotate_left
      · intro w'
        go_simp
        with_reducible rfl
      rotate_left
      · simp only [Act.put, List.setIfInBounds_toArray, List.set_cons_zero, List.set_cons_succ, i64_w, i32_w]
        rfl
      refine take_ (i := 31) (N := some 118) (v := ?_) (a' := ?_) #[true, true, true, true, true, true, true, true, true, true, true, true, true, true, true, true, true, true, true, true, true, true, true, true, true, true, true, true, true, true, true, true, false, false, false, false, false, false, false, false, false, false, false, false, false, false, false, false, false, false, false, false, false, false, false, false, false, false, false, false, false, false, false, false, false, false, false, false, false, false, false] rfl rfl (by kernel_rfl) (fun _ _ _ h => h) (Or.inl ⟨by rfl, ?_⟩) hHeld ?_ ?_
      rotate_left
      · rintro w' ⟨s0, s1, s2, s3, s4, s5, s6, s7, s8, s9, s10, s11, s12⟩
        go_simp
        with_reducible rfl
      rotate_left
      · simp only [Act.put, List.setIfInBounds_toArray, List.set_cons_zero, List.set_cons_succ, i64_w, i32_w]
        rfl
      refine pure_ (i := 32) (N := some 119) (v := ?_) (a' := ?_) #[true, true, true, true, true, true, true, true, true, true, true, true, true, true, true, true, true, true, true, true, true, true, true, true, true, true, true, true, true, true, true, true, true, false, false, false, false, false, false, false, false, false, false, false, false, false, false, false, false, false, false, false, false, false, false, false, false, false, false, false, false, false, false, false, false, false, false, false, false, false, false] rfl rfl (by kernel_rfl) (fun _ _ _ h => h) (Or.inl ⟨by rfl, ?_⟩) ?_ ?_
      rotate_left
      · intro w'
        go_simp
        with_reducible rfl
      rotate_left
      · simp only [Act.put, List.setIfInBounds_toArray, List.set_cons_zero, List.set_cons_succ, i64_w, i32_w]
        rfl
      refine pure_ (i := 33) (N := some 120) (v := ?_) (a' := ?_) #[true, true, true, true, true, true, true, true, true, true, true, true, true, true, true, true, true, true, true, true, true, true, true, true, true, true, true, true, true, true, true, true, true, true, false, false, false, false, false, false, false, false, false, false, false, false, false, false, false, false, false, false, false, false, false, false, false, false, false, false, false, false, false, false, false, false, false, false, false, false, false] rfl rfl (by kernel_rfl) (fun _ _ _ h => h) (Or.inl ⟨by rfl, ?_⟩) ?_ ?_
      rotate_left
      · intro w'
        go_simp
        with_reducible rfl
      rotate_left
      · simp only [Act.put, List.setIfInBounds_toArray, List.set_cons_zero, List.set_cons_succ, i64_w, i32_w]
        rfl
      refine pure_ (i := 34) (N := some 121) (v := ?_) (a' := ?_) #[true, true, true, true, true, true, true, true, true, true, true, true, true, true, true, true, true, true, true, true, true, true, true, true, true, true, true, true, true, true, true, true, true, true, true, false, false, false, false, false, false, false, false, false, false, false, false, false, false, false, false, false, false, false, false, false, false, false, false, false, false, false, false, false, false, false, false, false, false, false, false] rfl rfl (by kernel_rfl) (fun _ _ _ h => h) (Or.inl ⟨by rfl, ?_⟩) ?_ ?_
      rotate_left
      · intro w'
        go_simp
        with_reducible rfl
      rotate_left
      · simp only [Act.put, List.setIfInBounds_toArray, List.set_cons_zero, List.set_cons_succ, i64_w, i32_w]
        rfl
      as_aux_lemma =>
      refine pure_ (i := 35) (N := some 122) (v := ?_) (a' := ?_) #[true, true, true, true, true, true, true, true, true, true, true, true, true, true, true, true, true, true, true, true, true, true, true, true, true, true, true, true, true, true, true, true, true, true, true, true, false, false, false, false, false, false, false, false, false, false, false, false, false, false, false, false, false, false, false, false, false, false, false, false, false, false, false, false, false, false, false, false, false, false, false] rfl rfl (by kernel_rfl) (fun _ _ _ h => h) (Or.inl ⟨by rfl, ?_⟩) ?_ ?_
      rotate_left
      · intro w'
        go_simp
        with_reducible rfl
      rotate_left
      · simp only [Act.put, List.setIfInBounds_toArray, List.set_cons_zero, List.set_cons_succ, i64_w, i32_w]
        rfl
      refine pure_ (i := 36) (N := some 123) (v := ?_) (a' := ?_) #[true, true, true, true, true, true, true, true, true, true, true, true, true, true, true, true, true, true, true, true, true, true, true, true, true, true, true, true, true, true, true, true, true, true, true, true, true, false, false, false, false, false, false, false, false, false, false, false, false, false, false, false, false, false, false, false, false, false, false, false, false, false, false, false, false, false, false, false, false, false, false] rfl rfl (by kernel_rfl) (fun _ _ _ h => h) (Or.inl ⟨by rfl, ?_⟩) ?_ ?_
      rotate_left
      · intro w'
        go_simp
        with_reducible rfl
      rotate_left
      · simp only [Act.put, List.setIfInBounds_toArray, List.set_cons_zero, List.set_cons_succ, i64_w, i32_w]
        rfl
      refine pure_ (i := 37) (N := some 124) (v := ?_) (a' := ?_) #[true, true, true, true, true, true, true, true, true, true, true, true, true, true, true, true, true, true, true, true, true, true, true, true, true, true, true, true, true, true, true, true, true, true, true, true, true, true, false, false, false, false, false, false, false, false, false, false, false, false, false, false, false, false, false, false, false, false, false, false, false, false, false, false, false, false, false, false, false, false, false] rfl rfl (by kernel_rfl) (fun _ _ _ h => h) (Or.inl ⟨by rfl, ?_⟩) ?_ ?_
      rotate_left
      · intro w'
        go_simp
        with_reducible rfl
      rotate_left
      · simp only [Act.put, List.setIfInBounds_toArray, List.set_cons_zero, List.set_cons_succ, i64_w, i32_w]
        rfl
      refine pure_ (i := 38) (N := some 125) (v := ?_) (a' := ?_) #[true, true, true, true, true, true, true, true, true, true, true, true, true, true, true, true, true, true, true, true, true, true, true, true, true, true, true, true, true, true, true, true, true, true, true, true, true, true, true, false, false, false, false, false, false, false, false, false, false, false, false, false, false, false, false, false, false, false, false, false, false, false, false, false, false, false, false, false, false, false, false] rfl rfl (by kernel_rfl) (fun _ _ _ h => h) (Or.inl ⟨by rfl, ?_⟩) ?_ ?_
      rotate_left
      · intro w'
        go_simp
        with_reducible rfl
      rotate_left
      · simp only [Act.put, List.setIfInBounds_toArray, List.set_cons_zero, List.set_cons_succ, i64_w, i32_w]
        rfl
      refine pure_ (i := 39) (N := some 126) (v := ?_) (a' := ?_) #[true, true, true, true, true, true, true, true, true, true, true, true, true, true, true, true, true, true, true, true, true, true, true, true, true, true, true, true, true, true, true, true, true, true, true, true, true, true, true, true, false, false, false, false, false, false, false, false, false, false, false, false, false, false, false, false, false, false, false, false, false, false, false, false, false, false, false, false, false, false, false] rfl rfl (by kernel_rfl) (fun _ _ _ h => h) (Or.inl ⟨by rfl, ?_⟩) ?_ ?_
      rotate_left
      · intro w'
        go_simp
        with_reducible rfl
      rotate_left
      · simp only [Act.put, List.setIfInBounds_toArray, List.set_cons_zero, List.set_cons_succ, i64_w, i32_w]
        rfl
      refine take_ (i := 40) (N := some 127) (v := ?_) (a' := ?_) #[true, true, true, true, true, true, true, true, true, true, true, true, true, true, true, true, true, true, true, true, true, true, true, true, true, true, true, true, true, true, true, true, true, true, true, true, true, true, true, true, true, false, false, false, false, false, false, false, false, false, false, false, false, false, false, false, false, false, false, false, false, false, false, false, false, false, false, false, false, false, false] rfl rfl (by kernel_rfl) (fun _ _ _ h => h) (Or.inl ⟨by rfl, ?_⟩) hHeld ?_ ?_
      rotate_left
      · rintro w' ⟨s0, s1, s2, s3, s4, s5, s6, s7, s8, s9, s10, s11, s12⟩
        go_simp
        with_reducible rfl
      rotate_left
      · simp only [Act.put, List.setIfInBounds_toArray, List.set_cons_zero, List.set_cons_succ, i64_w, i32_w]
        rfl
      refine pure_ (i := 41) (N := some 128) (v := ?_) (a' := ?_) #[true, true, true, true, true, true, true, true, true, true, true, true, true, true, true, true, true, true, true, true, true, true, true, true, true, true, true, true, true, true, true, true, true, true, true, true, true, true, true, true, true, true, false, false, false, false, false, false, false, false, false, false, false, false, false, false, false, false, false, false, false, false, false, false, false, false, false, false, false, false, false] rfl rfl (by kernel_rfl) (fun _ _ _ h => h) (Or.inl ⟨by rfl, ?_⟩) ?_ ?_
      rotate_left
      · intro w'
        go_simp
        with_reducible rfl
      rotate_left
      · simp only [Act.put, List.setIfInBounds_toArray, List.set_cons_zero, List.set_cons_succ, i64_w, i32_w]
        rfl
      refine pure_ (i := 42) (N := some 129) (v := ?_) (a' := ?_) #[true, true, true, true, true, true, true, true, true, true, true, true, true, true, true, true, true, true, true, true, true, true, true, true, true, true, true, true, true, true, true, true, true, true, true, true, true, true, true, true, true, true, true, false, false, false, false, false, false, false, false, false, false, false, false, false, false, false, false, false, false, false, false, false, false, false, false, false, false, false, false] rfl rfl (by kernel_rfl) (fun _ _ _ h => h) (Or.inl ⟨by rfl, ?_⟩) ?_ ?_
      rotate_left
      · intro w'
        go_simp
        with_reducible rfl
      rotate_left
      · simp only [Act.put, List.setIfInBounds_toArray, List.set_cons_zero, List.set_cons_succ, i64_w, i32_w]
        rfl
      refine pure_ (i := 43) (N := some 130) (v := ?_) (a' := ?_) #[true, true, true, true, true, true, true, true, true, true, true, true, true, true, true, true, true, true, true, true, true, true, true, true, true, true, true, true, true, true, true, true, true, true, true, true, true, true, true, true, true, true, true, true, false, false, false, false, false, false, false, false, false, false, false, false, false, false, false, false, false, false, false, false, false, false, false, false, false, false, false] rfl rfl (by kernel_rfl) (fun _ _ _ h => h) (Or.inl ⟨by rfl, ?_⟩) ?_ ?_
      rotate_left
      · intro w'
        go_simp
        with_reducible rfl
      rotate_left
      · simp only [Act.put, List.setIfInBounds_toArray, List.set_cons_zero, List.set_cons_succ, i64_w, i32_w]
        rfl
      refine pure_ (i := 44) (N := some 131) (v := ?_) (a' := ?_) #[true, true, true, true, true, true, true, true, true, true, true, true, true, true, true, true, true, true, true, true, true, true, true, true, true, true, true, true, true, true, true, true, true, true, true, true, true, true, true, true, true, true, true, true, true, false, false, false, false, false, false, false, false, false, false, false, false, false, false, false, false, false, false, false, false, false, false, false, false, false, false] rfl rfl (by kernel_rfl) (fun _ _ _ h => h) (Or.inl ⟨by rfl, ?_⟩) ?_ ?_
      rotate_left
      · intro w'
        go_simp
        with_reducible rfl
      rotate_left
      · simp only [Act.put, List.setIfInBounds_toArray, List.set_cons_zero, List.set_cons_succ, i64_w, i32_w]
        rfl
      refine pure_ (i := 45) (N := some 132) (v := ?_) (a' := ?_) #[true, true, true, true, true, true, true, true, true, true, true, true, true, true, true, true, true, true, true, true, true, true, true, true, true, true, true, true, true, true, true, true, true, true, true, true, true, true, true, true, true, true, true, true, true, true, false, false, false, false, false, false, false, false, false, false, false, false, false, false, false, false, false, false, false, false, false, false, false, false, false] rfl rfl (by kernel_rfl) (fun _ _ _ h => h) (Or.inl ⟨by rfl, ?_⟩) ?_ ?_
      rotate_left
      · intro w'
        go_simp
        with_reducible rfl
      rotate_left
      · simp only [Act.put, List.setIfInBounds_toArray, List.set_cons_zero, List.set_cons_succ, i64_w, i32_w]
        rfl
      refine pure_ (i := 46) (N := some 133) (v := ?_) (a' := ?_) #[true, true, true, true, true, true, true, true, true, true, true, true, true, true, true, true, true, true, true, true, true, true, true, true, true, true, true, true, true, true, true, true, true, true, true, true, true, true, true, true, true, true, true, true, true, true, true, false, false, false, false, false, false, false, false, false, false, false, false, false, false, false, false, false, false, false, false, false, false, false, false] rfl rfl (by kernel_rfl) (fun _ _ _ h => h) (Or.inl ⟨by rfl, ?_⟩) ?_ ?_
      rotate_left
      · intro w'
        go_simp
        with_reducible rfl
      rotate_left
      · simp only [Act.put, List.setIfInBounds_toArray, List.set_cons_zero, List.set_cons_succ, i64_w, i32_w]
        rfl
      as_aux_lemma =>
      refine pure_ (i := 47) (N := some 134) (v := ?_) (a' := ?_) #[true, true, true, true, true, true, true, true, true, true, true, true, true, true, true, true, true, true, true, true, true, true, true, true, true, true, true, true, true, true, true, true, true, true, true, true, true, true, true, true, true, true, true, true, true, true, true, true, false, false, false, false, false, false, false, false, false, false, false, false, false, false, false, false, false, false, false, false, false, false, false] rfl rfl (by kernel_rfl) (fun _ _ _ h => h) (Or.inl ⟨by rfl, ?_⟩) ?_ ?_
      rotate_left
      · intro w'
        go_simp
        with_reducible rfl
      rotate_left
      · simp only [Act.put, List.setIfInBounds_toArray, List.set_cons_zero, List.set_cons_succ, i64_w, i32_w]
        rfl
      refine take_ (i := 48) (N := some 135) (v := ?_) (a' := ?_) #[true, true, true, true, true, true, true, true, true, true, true, true, true, true, true, true, true, true, true, true, true, true, true, true, true, true, true, true, true, true, true, true, true, true, true, true, true, true, true, true, true, true, true, true, true, true, true, true, true, false, false, false, false, false, false, false, false, false, false, false, false, false, false, false, false, false, false, false, false, false, false] rfl rfl (by kernel_rfl) (fun _ _ _ h => h) (Or.inl ⟨by rfl, ?_⟩) hHeld ?_ ?_
      rotate_left
      · rintro w' ⟨s0, s1, s2, s3, s4, s5, s6, s7, s8, s9, s10, s11, s12⟩
        go_simp
        with_reducible rfl
      rotate_left
      · simp only [Act.put, List.setIfInBounds_toArray, List.set_cons_zero, List.set_cons_succ, i64_w, i32_w]
        rfl
      refine pure_ (i := 49) (N := some 136) (v := ?_) (a' := ?_) #[true, true, true, true, true, true, true, true, true, true, true, true, true, true, true, true, true, true, true, true, true, true, true, true, true, true, true, true, true, true, true, true, true, true, true, true, true, true, true, true, true, true, true, true, true, true, true, true, true, true, false, false, false, false, false, false, false, false, false, false, false, false, false, false, false, false, false, false, false, false, false] rfl rfl (by kernel_rfl) (fun _ _ _ h => h) (Or.inl ⟨by rfl, ?_⟩) ?_ ?_
      rotate_left
      · intro w'
        go_simp
        with_reducible rfl
      rotate_left
      · simp only [Act.put, List.setIfInBounds_toArray, List.set_cons_zero, List.set_cons_succ, i64_w, i32_w]
        rfl
      refine pure_ (i := 50) (N := some 137) (v := ?_) (a' := ?_) #[true, true, true, true, true, true, true, true, true, true, true, true, true, true, true, true, true, true, true, true, true, true, true, true, true, true, true, true, true, true, true, true, true, true, true, true, true, true, true, true, true, true, true, true, true, true, true, true, true, true, true, false, false, false, false, false, false, false, false, false, false, false, false, false, false, false, false, false, false, false, false] rfl rfl (by kernel_rfl) (fun _ _ _ h => h) (Or.inl ⟨by rfl, ?_⟩) ?_ ?_
      rotate_left
      · intro w'
        go_simp
        with_reducible rfl
      rotate_left
      · simp only [Act.put, List.setIfInBounds_toArray, List.set_cons_zero, List.set_cons_succ, i64_w, i32_w]
        rfl
      refine pure_ (i := 51) (N := some 138) (v := ?_) (a' := ?_) #[true, true, true, true, true, true, true, true, true, true, true, true, true, true, true, true, true, true, true, true, true, true, true, true, true, true, true, true, true, true, true, true, true, true, true, true, true, true, true, true, true, true, true, true, true, true, true, true, true, true, true, true, false, false, false, false, false, false, false, false, false, false, false, false, false, false, false, false, false, false, false] rfl rfl (by kernel_rfl) (fun _ _ _ h => h) (Or.inl ⟨by rfl, ?_⟩) ?_ ?_
      rotate_left
      · intro w'
        go_simp
        with_reducible rfl
      rotate_left
      · simp only [Act.put, List.setIfInBounds_toArray, List.set_cons_zero, List.set_cons_succ, i64_w, i32_w]
        rfl
      refine pure_ (i := 52) (N := some 139) (v := ?_) (a' := ?_) #[true, true, true, true, true, true, true, true, true, true, true, true, true, true, true, true, true, true, true, true, true, true, true, true, true, true, true, true, true, true, true, true, true, true, true, true, true, true, true, true, true, true, true, true, true, true, true, true, true, true, true, true, true, false, false, false, false, false, false, false, false, false, false, false, false, false, false, false, false, false, false] rfl rfl (by kernel_rfl) (fun _ _ _ h => h) (Or.inl ⟨by rfl, ?_⟩) ?_ ?_
      rotate_left
      · intro w'
        go_simp
        with_reducible rfl
      rotate_left
      · simp only [Act.put, List.setIfInBounds_toArray, List.set_cons_zero, List.set_cons_succ, i64_w, i32_w]
        rfl
      refine pure_ (i := 53) (N := some 140) (v := ?_) (a' := ?_) #[true, true, true, true, true, true, true, true, true, true, true, true, true, true, true, true, true, true, true, true, true, true, true, true, true, true, true, true, true, true, true, true, true, true, true, true, true, true, true, true, true, true, true, true, true, true, true, true, true, true, true, true, true, true, false, false, false, false, false, false, false, false, false, false, false, false, false, false, false, false, false] rfl rfl (by kernel_rfl) (fun _ _ _ h => h) (Or.inl ⟨by rfl, ?_⟩) ?_ ?_
      rotate_left
      · intro w'
        go_simp
        with_reducible rfl
      rotate_left
      · simp only [Act.put, List.setIfInBounds_toArray, List.set_cons_zero, List.set_cons_succ, i64_w, i32_w]
        rfl
      refine pure_ (i := 54) (N := some 141) (v := ?_) (a' := ?_) #[true, true, true, true, true, true, true, true, true, true, true, true, true, true, true, true, true, true, true, true, true, true, true, true, true, true, true, true, true, true, true, true, true, true, true, true, true, true, true, true, true, true, true, true, true, true, true, true, true, true, true, true, true, true, true, false, false, false, false, false, false, false, false, false, false, false, false, false, false, false, false] rfl rfl (by kernel_rfl) (fun _ _ _ h => h) (Or.inl ⟨by rfl, ?_⟩) ?_ ?_
      rotate_left
      · intro w'
        go_simp
        with_reducible rfl
      rotate_left
      · simp only [Act.put, List.setIfInBounds_toArray, List.set_cons_zero, List.set_cons_succ, i64_w, i32_w]
        rfl
      refine pure_ (i := 55) (N := some 142) (v := ?_) (a' := ?_) #[true, true, true, true, true, true, true, true, true, true, true, true, true, true, true, true, true, true, true, true, true, true, true, true, true, true, true, true, true, true, true, true, true, true, true, true, true, true, true, true, true, true, true, true, true, true, true, true, true, true, true, true, true, true, true, true, false, false, false, false, false, false, false, false, false, false, false, false, false, false, false] rfl rfl (by kernel_rfl) (fun _ _ _ h => h) (Or.inl ⟨by rfl, ?_⟩) ?_ ?_
      rotate_left
      · intro w'
        go_simp
        with_reducible rfl
      rotate_left
      · simp only [Act.put, List.setIfInBounds_toArray, List.set_cons_zero, List.set_cons_succ, i64_w, i32_w]
        rfl
      refine pure_ (i := 56) (N := some 143) (v := ?_) (a' := ?_) #[true, true, true, true, true, true, true, true, true, true, true, true, true, true, true, true, true, true, true, true, true, true, true, true, true, true, true, true, true, true, true, true, true, true, true, true, true, true, true, true, true, true, true, true, true, true, true, true, true, true, true, true, true, true, true, true, true, false, false, false, false, false, false, false, false, false, false, false, false, false, false] rfl rfl (by kernel_rfl) (fun _ _ _ h => h) (Or.inl ⟨by rfl, ?_⟩) ?_ ?_
      rotate_left
      · intro w'
        go_simp
        with_reducible rfl
      rotate_left
      · simp only [Act.put, List.setIfInBounds_toArray, List.set_cons_zero, List.set_cons_succ, i64_w, i32_w]
        rfl
      refine pure_ (i := 58) (N := some 145) (v := ?_) (a' := ?_) #[true, true, true, true, true, true, true, true, true, true, true, true, true, true, true, true, true, true, true, true, true, true, true, true, true, true, true, true, true, true, true, true, true, true, true, true, true, true, true, true, true, true, true, true, true, true, true, true, true, true, true, true, true, true, true, true, true, false, true, false, false, false, false, false, false, false, false, false, false, false, false] rfl rfl (by kernel_rfl) (fun _ _ _ h => h) (Or.inl ⟨by rfl, ?_⟩) ?_ ?_
      rotate_left
      · intro w'
        go_simp
        with_reducible rfl
      rotate_left
      · simp only [Act.put, List.setIfInBounds_toArray, List.set_cons_zero, List.set_cons_succ, i64_w, i32_w]
        rfl
      refine pure_ (i := 59) (N := some 146) (v := ?_) (a' := ?_) #[true, true, true, true, true, true, true, true, true, true, true, true, true, true, true, true, true, true, true, true, true, true, true, true, true, true, true, true, true, true, true, true, true, true, true, true, true, true, true, true, true, true, true, true, true, true, true, true, true, true, true, true, true, true, true, true, true, false, true, true, false, false, false, false, false, false, false, false, false, false, false] rfl rfl (by kernel_rfl) (fun _ _ _ h => h) (Or.inl ⟨by rfl, ?_⟩) ?_ ?_
      rotate_left
      · intro w'
        go_simp
        with_reducible rfl
      rotate_left
      · simp only [Act.put, List.setIfInBounds_toArray, List.set_cons_zero, List.set_cons_succ, i64_w, i32_w]
        rfl
      as_aux_lemma =>
      refine pure_ (i := 60) (N := some 147) (v := ?_) (a' := ?_) #[true, true, true, true, true, true, true, true, true, true, true, true, true, true, true, true, true, true, true, true, true, true, true, true, true, true, true, true, true, true, true, true, true, true, true, true, true, true, true, true, true, true, true, true, true, true, true, true, true, true, true, true, true, true, true, true, true, false, true, true, true, false, false, false, false, false, false, false, false, false, false] rfl rfl (by kernel_rfl) (fun _ _ _ h => h) (Or.inl ⟨by rfl, ?_⟩) ?_ ?_
      rotate_left
      · intro w'
        go_simp
        with_reducible rfl
      rotate_left
      · simp only [Act.put, List.setIfInBounds_toArray, List.set_cons_zero, List.set_cons_succ, i64_w, i32_w]
        rfl
      refine pure_ (i := 61) (N := some 148) (v := ?_) (a' := ?_) #[true, true, true, true, true, true, true, true, true, true, true, true, true, true, true, true, true, true, true, true, true, true, true, true, true, true, true, true, true, true, true, true, true, true, true, true, true, true, true, true, true, true, true, true, true, true, true, true, true, true, true, true, true, true, true, true, true, false, true, true, true, true, false, false, false, false, false, false, false, false, false] rfl rfl (by kernel_rfl) (fun _ _ _ h => h) (Or.inl ⟨by rfl, ?_⟩) ?_ ?_
      rotate_left
      · intro w'
        go_simp
        with_reducible rfl
      rotate_left
      · simp only [Act.put, List.setIfInBounds_toArray, List.set_cons_zero, List.set_cons_succ, i64_w, i32_w]
        rfl
      refine pure_ (i := 62) (N := some 149) (v := ?_) (a' := ?_) #[true, true, true, true, true, true, true, true, true, true, true, true, true, true, true, true, true, true, true, true, true, true, true, true, true, true, true, true, true, true, true, true, true, true, true, true, true, true, true, true, true, true, true, true, true, true, true, true, true, true, true, true, true, true, true, true, true, false, true, true, true, true, true, false, false, false, false, false, false, false, false] rfl rfl (by kernel_rfl) (fun _ _ _ h => h) (Or.inl ⟨by rfl, ?_⟩) ?_ ?_
      rotate_left
      · intro w'
        go_simp
        with_reducible rfl
      rotate_left
      · simp only [Act.put, List.setIfInBounds_toArray, List.set_cons_zero, List.set_cons_succ, i64_w, i32_w]
        rfl
      refine take_ (i := 57) (N := some 144) (v := ?_) (a' := ?_) #[true, true, true, true, true, true, true, true, true, true, true, true, true, true, true, true, true, true, true, true, true, true, true, true, true, true, true, true, true, true, true, true, true, true, true, true, true, true, true, true, true, true, true, true, true, true, true, true, true, true, true, true, true, true, true, true, true, true, true, true, true, true, true, false, false, false, false, false, false, false, false] rfl rfl (by kernel_rfl) (fun _ _ _ h => h) (Or.inl ⟨by rfl, ?_⟩) hHeld ?_ ?_
      rotate_left
      · rintro w' ⟨s0, s1, s2, s3, s4, s5, s6, s7, s8, s9, s10, s11, s12⟩
        go_simp
        with_reducible rfl
      rotate_left
      · simp only [Act.put, List.setIfInBounds_toArray, List.set_cons_zero, List.set_cons_succ, i64_w, i32_w]
        rfl
      refine take_ (i := 63) (N := some 150) (v := ?_) (a' := ?_) #[true, true, true, true, true, true, true, true, true, true, true, true, true, true, true, true, true, true, true, true, true, true, true, true, true, true, true, true, true, true, true, true, true, true, true, true, true, true, true, true, true, true, true, true, true, true, true, true, true, true, true, true, true, true, true, true, true, true, true, true, true, true, true, true, false, false, false, false, false, false, false] rfl rfl (by kernel_rfl) (fun _ _ _ h => h) (Or.inl ⟨by rfl, ?_⟩) hHeld ?_ ?_
      rotate_left
      · rintro w' ⟨s0, s1, s2, s3, s4, s5, s6, s7, s8, s9, s10, s11, s12⟩
        go_simp
        with_reducible rfl
      rotate_left
      · simp only [Act.put, List.setIfInBounds_toArray, List.set_cons_zero, List.set_cons_succ, i64_w, i32_w]
        rfl
      refine pure_ (i := 64) (N := some 151) (v := ?_) (a' := ?_) #[true, true, true, true, true, true, true, true, true, true, true, true, true, true, true, true, true, true, true, true, true, true, true, true, true, true, true, true, true, true, true, true, true, true, true, true, true, true, true, true, true, true, true, true, true, true, true, true, true, true, true, true, true, true, true, true, true, true, true, true, true, true, true, true, true, false, false, false, false, false, false] rfl rfl (by kernel_rfl) (fun _ _ _ h => h) (Or.inl ⟨by rfl, ?_⟩) ?_ ?_
      rotate_left
      · intro w'
        go_simp
        with_reducible rfl
      rotate_left
      · simp only [Act.put, List.setIfInBounds_toArray, List.set_cons_zero, List.set_cons_succ, i64_w, i32_w]
        rfl
      refine pure_ (i := 65) (N := some 152) (v := ?_) (a' := ?_) #[true, true, true, true, true, true, true, true, true, true, true, true, true, true, true, true, true, true, true, true, true, true, true, true, true, true, true, true, true, true, true, true, true, true, true, true, true, true, true, true, true, true, true, true, true, true, true, true, true, true, true, true, true, true, true, true, true, true, true, true, true, true, true, true, true, true, false, false, false, false, false] rfl rfl (by kernel_rfl) (fun _ _ _ h => h) (Or.inl ⟨by rfl, ?_⟩) ?_ ?_
      rotate_left
      · intro w'
        go_simp
        with_reducible rfl
      rotate_left
      · simp only [Act.put, List.setIfInBounds_toArray, List.set_cons_zero, List.set_cons_succ, i64_w, i32_w]
        rfl
      refine pure_ (i := 66) (N := some 153) (v := ?_) (a' := ?_) #[true, true, true, true, true, true, true, true, true, true, true, true, true, true, true, true, true, true, true, true, true, true, true, true, true, true, true, true, true, true, true, true, true, true, true, true, true, true, true, true, true, true, true, true, true, true, true, true, true, true, true, true, true, true, true, true, true, true, true, true, true, true, true, true, true, true, true, false, false, false, false] rfl rfl (by kernel_rfl) (fun _ _ _ h => h) (Or.inl ⟨by rfl, ?_⟩) ?_ ?_
      rotate_left
      · intro w'
        go_simp
        with_reducible rfl
      rotate_left
      · simp only [Act.put, List.setIfInBounds_toArray, List.set_cons_zero, List.set_cons_succ, i64_w, i32_w]
        rfl
      refine pure_ (i := 67) (N := some 154) (v := ?_) (a' := ?_) #[true, true, true, true, true, true, true, true, true, true, true, true, true, true, true, true, true, true, true, true, true, true, true, true, true, true, true, true, true, true, true, true, true, true, true, true, true, true, true, true, true, true, true, true, true, true, true, true, true, true, true, true, true, true, true, true, true, true, true, true, true, true, true, true, true, true, true, true, false, false, false] rfl rfl (by kernel_rfl) (fun _ _ _ h => h) (Or.inl ⟨by rfl, ?_⟩) ?_ ?_
      rotate_left
      · intro w'
        go_simp
        with_reducible rfl
      rotate_left
      · simp only [Act.put, List.setIfInBounds_toArray, List.set_cons_zero, List.set_cons_succ, i64_w, i32_w]
        rfl
      refine one_ (i := 68) (N := some 155) #[true, true, true, true, true, true, true, true, true, true, true, true, true, true, true, true, true, true, true, true, true, true, true, true, true, true, true, true, true, true, true, true, true, true, true, true, true, true, true, true, true, true, true, true, true, true, true, true, true, true, true, true, true, true, true, true, true, true, true, true, true, true, true, true, true, true, true, true, true, false, false] rfl rfl (by kernel_rfl) (by decide) (fun K hK => ?_)
      refine goes_ Tryd.func7 (by kernel_rfl) rfl #[] (by rfl) rfl rfl (by simp only [List.map_toArray, List.map_nil]) ?_
      with_reducible refine (live_calls w8).mono ?_
      rintro e' w9 ⟨rfl, hb⟩
      have HB9 := Aside0.mk hb
      have hu0 := (hb.cell (World.block_lt_of_cell? w8 _ hy0)).trans hy0
      have hu1 := (hb.cell (World.block_lt_of_cell? w8 _ hy1)).trans hy1
      have hu2 := (hb.cell (World.block_lt_of_cell? w8 _ hy2)).trans hy2
      have hu3 := (hb.cell (World.block_lt_of_cell? w8 _ hy3)).trans hy3
      have hu4 := (hb.cell (World.block_lt_of_cell? w8 _ hy4)).trans hy4
      have hu5 := (hb.cell (World.block_lt_of_cell? w8 _ hy5)).trans hy5
      have hu6 := (hb.cell (World.block_lt_of_cell? w8 _ hy6)).trans hy6
      have hu7 := (hb.cell (World.block_lt_of_cell? w8 _ hy7)).trans hy7
      have hu8 := (hb.cell (World.block_lt_of_cell? w8 _ hy8)).trans hy8
      have hu9 := (hb.cell (World.block_lt_of_cell? w8 _ hy9)).trans hy9
      have hu10 := (hb.cell (World.block_lt_of_cell? w8 _ hy10)).trans hy10
      have hu11 := (hb.cell (World.block_lt_of_cell? w8 _ hy11)).trans hy11
      have hu12 := (hb.cell (World.block_lt_of_cell? w8 _ hy12)).trans hy12
      clear hb
      refine ⟨_, rfl, ?_⟩
      refine hK.out _ _ ⟨hu0, hu1, hu2, hu3, hu4, hu5, hu6, hu7, hu8, hu9, hu10, hu11, hu12⟩ (fun hHeld => ?_)
      clear hK K
      refine norm_ (a' := ?_) ?_ ?_
      rotate_left
      · show Act.put _ (some 155) _ = _
        simp only [Act.put, List.setIfInBounds_toArray, List.set_cons_zero, List.set_cons_succ, i64_w, i32_w]
        rfl
      refine pure_ (i := 69) (N := some 156) (v := ?_) (a' := ?_) #[true, true, true, true, true, true, true, true, true, true, true, true, true, true, true, true, true, true, true, true, true, true, true, true, true, true, true, true, true, true, true, true, true, true, true, true, true, true, true, true, true, true, true, true, true, true, true, true, true, true, true, true, true, true, true, true, true, true, true, true, true, true, true, true, true, true, true, true, true, true, false] rfl rfl (by kernel_rfl) (fun _ _ _ h => h) (Or.inl ⟨by rfl, ?_⟩) ?_ ?_
      rotate_left
      · intro w'
        go_simp
        with_reducible rfl
      rotate_left
      · simp only [Act.put, List.setIfInBounds_toArray, List.set_cons_zero, List.set_cons_succ, i64_w, i32_w]
        rfl
      refine pure_ (i := 70) (N := some 8) (v := ?_) (a' := ?_) #[true, true, true, true, true, true, true, true, true, true, true, true, true, true, true, true, true, true, true, true, true, true, true, true, true, true, true, true, true, true, true, true, true, true, true, true, true, true, true, true, true, true, true, true, true, true, true, true, true, true, true, true, true, true, true, true, true, true, true, true, true, true, true, true, true, true, true, true, true, true, true] rfl rfl (by kernel_rfl) (fun _ _ _ h => h) (Or.inl ⟨by rfl, ?_⟩) ?_ ?_
      rotate_left
      · intro w'
        go_simp
        with_reducible rfl
      rotate_left
      · simp only [Act.put, List.setIfInBounds_toArray, List.set_cons_zero, List.set_cons_succ, i64_w, i32_w]
        rfl
      refine done_ (by kernel_rfl) ?_
      go_wp2_with fail
      go_ret
      exact ⟨rfl, below_step (below_step HBf.out HB8.out) HB9.out⟩
end Go.Proofs.YteekkpofcbcikaaDoor.HandWan
