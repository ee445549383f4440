/- The walk of spec.Wanted. -/
import Derived.Test.YteekkpofcbcikaaDoorQE
namespace Go.Proofs.YteekkpofcbcikaaDoor.HandWan
open Go Go.RowKit Go.Proofs.YteekkpofcbcikaaDoorL Go.Proofs.YteekkpofcbcikaaDoorW.PrintWords Go.Proofs.YteekkpofcbcikaaDoorW.PrintLast Go.Proofs.YteekkpofcbcikaaDoorW.PrintMore Go.Proofs.YteekkpofcbcikaaDoor.PWan
attribute [local go_sem] max2_int min2_int max_two min_two max_three min_three max_four min_four
set_option linter.unusedVariables false
set_option linter.unusedSimpArgs false
/-! The walk of spec.Wanted. -/
theorem at_F31 {w : World} {ok : Nat → Prop} {A : Option Addr} {xs : List S31} (h : Kd.F k31 w ok A xs.length xs) (i : Int) (j : Nat) (hij : i = (j : Int)) (hj : j < xs.length) : ∃ ad A1 c1, A = some ad ∧ w.cell? (ad.add (i.toNat * 4)) = some (.int .i64 xs[j].f0) ∧ w.cell? ⟨(ad.add (i.toNat * 4)).block, (ad.add (i.toNat * 4)).off + 1, none⟩ = some (.slice A1 xs[j].f1.f0.length c1) ∧ w.cell? ⟨(ad.add (i.toNat * 4)).block, (ad.add (i.toNat * 4)).off + 2, none⟩ = some (.int .i32 xs[j].f1.f1) ∧ w.cell? ⟨(ad.add (i.toNat * 4)).block, (ad.add (i.toNat * 4)).off + 3, none⟩ = some (.bool xs[j].f1.f2) ∧ xs[j].f1.f0.length ≤ c1 ∧ Kd.F (Kd.int .u8) w ok A1 xs[j].f1.f0.length xs[j].f1.f0 := by
  obtain ⟨ad, c, e, _, hK, hc0⟩ := Kd.F_get h z31 i (by omega) (by omega)
  have hc : ∀ j u, c[j]? = some u → w.cell? (ad.add (i.toNat * 4 + j)) = some u := hc0.1
  have ex : xs.getD i.toNat z31 = xs[j] := by rw [hij, Int.toNat_natCast, List.getD_eq_getElem?_getD, List.getElem?_eq_getElem hj]; rfl
  rw [ex] at hK
  obtain ⟨A1, c1, rfl, l1, f1⟩ := k31_openF hK
  exact ⟨ad, A1, c1, e, hc 0 _ rfl, by rw [← add_field _ _ 1 (by omega)]; exact hc 1 _ rfl, by rw [← add_field _ _ 2 (by omega)]; exact hc 2 _ rfl, by rw [← add_field _ _ 3 (by omega)]; exact hc 3 _ rfl, l1, f1⟩
theorem apart_eq {a b : List S27} (e : a = b) (h : ∀ p q : Fin a.length, Lib.bytesOf a[p.val].f0 = Lib.bytesOf a[q.val].f0 → p = q) : ∀ p q : Fin b.length, Lib.bytesOf b[p.val].f0 = Lib.bytesOf b[q.val].f0 → p = q := by
  subst e
  exact h
set_option maxHeartbeats 32000000 in
set_option maxRecDepth 100000 in
theorem spec_calls (w : World) (A : Option Addr) (c : Nat) (l : List S31) (hC : Kd.C k31 w A l.length l) (hl : l.length ≤ 200) (hx : ∀ x ∈ l, OkW x ∧ (x.f0 = 0 ∨ x.f0 = 1 ∨ x.f0 = 2 ∨ x.f0 = 3)) :
    Calls Tryd.prog 12 #[.slice A l.length c] w fun e w' => ∃ v, e = .returned v ∧ Kd.N k36 36 w' w.heap.size (fun _ => True) v (spRun [] l) ∧ Below w.heap.size w w' := by
  obtain ⟨B, hBe⟩ : ∃ B, B = w.heap.size := ⟨_, rfl⟩
  have HC := Aside0.mk (Kd.C_F k31_heap hC)
  have HL := Aside0.mk hl
  have HX := Aside0.mk hx
  have HBE := Aside0.mk hBe
  rw [← hBe] at HC ⊢
  clear hC hl hx hBe
  go_enter Tryd.func12, Tryd.ntmps12
  go_wp2_with fail
  go_loopg [11, 3, 4] l.length (fun kq v11 v3 v4 w' => ∃ i : Int, v11 = .int .i64 i ∧ Aside0 (∃ j : Nat, i = (j : Int) ∧ j + kq = l.length ∧ Below B w w' ∧ NE B w' B v4 ((l.take j).foldl spL []) ∧ Kd.N k36 36 w' B (fun k => some k ≠ v4.ownBlock) v3 (spRun [] (l.take j))))
  case atStart => exact ⟨0, rfl, ⟨0, rfl, by omega, by rw [HBE.out]; exact Below.refl _ _, NE.nil _ _ _, Kd.N_nil _ _ _ _ _⟩⟩
  case round =>
    obtain ⟨i, rfl, HJ⟩ := hrel
    by_cases hi : i < (l.length : Int)
    · have q0 : decide (i < (l.length : Int)) = true := decide_eq_true hi
      obtain ⟨j, hij, hjk, hB, hN4, hN3⟩ := HJ.out
      have hjl : j < l.length := by omega
      have hi0 : ((0 : Int) ≤ i) = True := eq_true (by omega)
      have hi1 : (i < (l.length : Int)) = True := eq_true (by omega)
      have hFr : Kd.F k31 wr (fun k => k < B) A l.length l := Kd.F_step HC.out (fun k hk hlt => hB.block k hk)
      obtain ⟨ad, A1, c1, eA, hx0, hx1, hx2, hx3, hl1, hF1⟩ := at_F31 hFr i j hij hjl
      subst eA
      obtain ⟨x, hxx⟩ : ∃ x, x = l[j] := ⟨_, rfl⟩
      rw [← hxx] at hx0 hx1 hx2 hx3 hl1 hF1
      have HOK := Aside0.mk (HX.out x (by rw [hxx]; exact List.getElem_mem hjl))
      obtain ⟨L, hL⟩ : ∃ L, L = (l.take j).foldl spL [] := ⟨_, rfl⟩
      have HLL := Aside0.mk (show L.length ≤ 200 by rw [hL]; have h1 := fold_len (l.take j) []; have := HL.out; rw [List.length_take] at h1; simp only [List.length_nil] at h1; omega)
      have HNX := Aside0.mk (show (l.take (j + 1)).foldl spL [] = spL L x by rw [foldl_take_ _ _ _ _ hjl, ← hxx, ← hL])
      have HRN := Aside0.mk (show spRun [] (l.take (j + 1)) = spRun [] (l.take j) ++ [spTold L x] by rw [List.take_succ_eq_append_getElem hjl, spRun_snoc, ← hL, ← hxx])
      have HAP : Aside0 (∀ p q : Fin (spL L x).length, Lib.bytesOf (spL L x)[p.val].f0 = Lib.bytesOf (spL L x)[q.val].f0 → p = q) := ⟨apart_eq HNX.out (fun p q h => Rel.apart (Rel.of (l.take (j + 1)) [] st0 rel_start (fun y hy => HX.out y (List.mem_of_mem_take hy))) p q h)⟩
      rw [← hL] at hN4
      obtain ⟨out, hout⟩ : ∃ out, out = spRun [] (l.take j) := ⟨_, rfl⟩
      have HOL := Aside0.mk (show out.length ≤ 200 by rw [hout, spRun_len, List.length_take]; have := HL.out; omega)
      rw [← hout] at hN3 HRN
      obtain ⟨A4, c4, e4⟩ := Kd.N_slice hN4
      subst e4
      obtain ⟨A3, c3, e3⟩ := Kd.N_slice hN3
      subst e3
      have HB := Aside0.mk hB
      have HN4 := Aside0.mk hN4
      have HN3 := Aside0.mk (Kd.N_bound hN3)
      have HL1 := Aside0.mk hl1
      have HF1 := Aside0.mk hF1
      obtain ⟨i1, hi1e⟩ : ∃ y : Int, wrap64 (i + 1) = y := ⟨_, rfl⟩
      have hi1w : IntKind.i64.wrap (i + 1) = i1 := (i64_w _).trans hi1e
      have HI1 := Aside0.mk (show i1 = ((j + 1 : Nat) : Int) by have := HL.out; rw [← hi1e]; unfold wrap64; omega)
      have HJ2 := Aside0.mk (show j + gk = l.length ∧ j < l.length from ⟨hjk, hjl⟩)
      clear hij hjk hjl hi HJ hB hN4 hN3 hxx hL hout hl1 hF1 hFr
      go_upto_region 7 with fail
      obtain ⟨wa, hwa⟩ : ∃ wa, wa = (wr.alloc (.cells #[.int .i64 x.f0, .slice A1 x.f1.f0.length c1, .int .i32 x.f1.f1, .bool x.f1.f2] 31)).alloc (.cells #[.bool true, .slice none 0 0, .int .i32 0, .bool false, .int .i64 0, .slice none 0 0] 36) := ⟨_, rfl⟩
      rw [← hwa]
      have hBa : Below wr.heap.size wr wa := by rw [hwa]; exact below_alloc (below_alloc (Below.refl _ _) _) _
      have hbx : wa.heap[wr.heap.size]? = some (.cells #[.int .i64 x.f0, .slice A1 x.f1.f0.length c1, .int .i32 x.f1.f1, .bool x.f1.f2] 31 (0, 0)) := by rw [hwa]; exact blk_alloc (blk_new wr _) _
      have hbt : wa.heap[wr.heap.size + 1]? = some (.cells #[.bool true, .slice none 0 0, .int .i32 0, .bool false, .int .i64 0, .slice none 0 0] 36 (0, 0)) := by
        have := blk_new (wr.alloc (.cells #[.int .i64 x.f0, .slice A1 x.f1.f0.length c1, .int .i32 x.f1.f1, .bool x.f1.f2] 31)) (.cells #[.bool true, .slice none 0 0, .int .i32 0, .bool false, .int .i64 0, .slice none 0 0] 36)
        rw [hwa]
        rwa [show (wr.alloc (.cells #[.int .i64 x.f0, .slice A1 x.f1.f0.length c1, .int .i32 x.f1.f1, .bool x.f1.f2] 31)).heap.size = wr.heap.size + 1 from Array.size_push ..] at this
      obtain ⟨gx, hgx⟩ : ∃ gx, gx = wr.heap.size := ⟨_, rfl⟩
      obtain ⟨gt, hgt⟩ : ∃ gt, gt = wr.heap.size + 1 := ⟨_, rfl⟩
      have HG : Aside0 (B ≤ wr.heap.size ∧ wr.heap.size ≤ gx ∧ wr.heap.size ≤ gt ∧ gx ≠ gt ∧ B = w.heap.size ∧ w.heap.size ≤ wr.heap.size) := ⟨by have h1 := HB.out.size; have h2 := HBE.out; omega⟩
      rw [← hgt] at hbt
      rw [← hgx] at hbx
      rw [← hgt, ← hgx]
      have hy1 : wa.cell? ⟨gx, 1, none⟩ = some (.slice A1 x.f1.f0.length c1) := (blk_cell hbx 1).trans rfl
      have HBX := Aside0.mk hbx
      have HBT := Aside0.mk hbt
      have HBA := Aside0.mk hBa
      have HNA := Aside0.mk (HN4.out.below hBa)
      have HFA := Aside0.mk (Kd.F_below HF1.out hBa)
      clear hwa hgx hgt hbx hbt hx0 hx1 hx2 hx3 hBa
      go_upto_block 2 with (go_at_call 43; refine (find_calls L x.f1.f0 A4 A1 c4 c1 wa (Kd.N_reads' HNA.out).2.2 (by have := HLL.out; omega) (Kd.F_now HFA.out) HL1.out).mono ?_; rintro e w1 ⟨rfl, hb⟩; have hbx1 := (hb.block _ (blk_lt HBX.out)).trans HBX.out; have hbt1 := (hb.block _ (blk_lt HBT.out)).trans HBT.out; have hz0 : w1.cell? ⟨gx, 0, none⟩ = some (.int .i64 x.f0) := (blk_cell hbx1 0).trans rfl; have HBX1 := Aside0.mk hbx1; have HBT1 := Aside0.mk hbt1; have HN1 := Aside0.mk (HNA.out.below hb); have HF1 := Aside0.mk (Kd.F_below HFA.out hb); have HB1 := Aside0.mk (below_step HBA.out hb); clear hb hbx1 hbt1 hy1)
      obtain ⟨r, hr⟩ : ∃ r, fI L x.f1.f0 0 = r := ⟨_, rfl⟩
      rw [hr]
      go_cut [4] (fun v4 we => Aside0 (∃ Ae ce, SB B wr we (.slice A4 L.length c4) v4 L x gt Ae ce))
      case first =>
        have HS1 : Aside0 (B ≤ w1.heap.size ∧ wr.heap.size ≤ w1.heap.size) := ⟨by have h1 := HG.out; have h2 := HB1.out.size; omega⟩
        have HNE : Aside0 (some gt ≠ (Value.slice A4 L.length c4).ownBlock) := ⟨Kd.N_ne HN1.out HBT1.out (by decide)⟩
        by_cases hk : x.f0 = 0
        · have k0 : (x.f0 == 0) = true := beq_iff_eq.mpr hk
          obtain ⟨eS, eB⟩ := lA_spL L x hk
          have eE : spE L x = z27 := by unfold spE; rw [if_neg (by omega)]
          have HEE := Aside0.mk (And.intro eS (And.intro eB eE))
          have hz1 : w1.cell? ⟨gx, 1, none⟩ = some (.slice A1 x.f1.f0.length c1) := (blk_cell HBX1.out 1).trans rfl
          have hz2 : w1.cell? ⟨gx, 2, none⟩ = some (.int .i32 x.f1.f1) := (blk_cell HBX1.out 2).trans rfl
          have hz3 : w1.cell? ⟨gx, 3, none⟩ = some (.bool x.f1.f2) := (blk_cell HBX1.out 3).trans rfl
          clear eS eB eE hk
          go_wp2_with (go_at_call 44; go_loud (refine (listAdd_calls (.slice A4 L.length c4) L x.f1 A1 c1 w1 B B HN1.out (Nat.le_refl _) HS1.out.1 (by have := HLL.out; omega) HF1.out HL1.out).mono ?_); rintro e w2 ⟨v5, rfl, hN, hg, hat⟩; have hbt2 := (hg.block gt (blk_lt HBT1.out) HNE.out).trans HBT1.out; have ht0 : w2.cell? ⟨gt, 0, none⟩ = some (.bool true) := (blk_cell hbt2 0).trans rfl; have hf0 : w2.frozen? ⟨gt, 0, none⟩ = false := blk_fz hbt2 0; have HBT2 := Aside0.mk hbt2; have HN2 := Aside0.mk hN; have HG2 := Aside0.mk (World.grownBy.trans (grown_of_below HB1.out _) hg); have HAT := Aside0.mk hat; clear hbt2 hN hg hat)
          go_meet
          case rel =>
            refine ⟨none, 0, grown_put HG2.out (by have := HG.out; omega) _, ?_, ?_, ?_, ?_, ?_⟩
            · rw [HEE.out.1]; exact HN2.out.put (by have := HG.out; omega) (Kd.N_ne HN2.out HBT2.out (by decide))
            · rcases HAT.out with h | ⟨z, h, hz⟩
              · exact .inl h
              · exact .inr ⟨z, h, by have := HS1.out; omega⟩
            · rw [HEE.out.2.1, HEE.out.2.2]; exact heap_set1 0 _ HBT2.out rfl
            · rw [HEE.out.2.2]; exact Nat.le_refl 0
            · rw [HEE.out.2.2]; exact F_none _ _
        · have hks : x.f0 = 1 ∨ x.f0 = 2 ∨ x.f0 = 3 := HOK.out.2.resolve_left hk
          clear hk
          rcases fI_split x.f1.f0 L 0 with ⟨hr2, hm⟩ | ⟨a, y, b, hLs, hre, hm1, hm2⟩
          · rw [hr] at hr2
            subst hr2
            rcases hks with hk | hk | hk
            · have k0 : (x.f0 == 0) = false := beq_eq_false_iff_ne.mpr (by omega)
              have k1 : (x.f0 == 1) = true := beq_iff_eq.mpr hk
              have HEE := Aside0.mk (sp_miss L x hr (.inl hk))
              have ht0 : w1.cell? ⟨gt, 0, none⟩ = some (.bool true) := (blk_cell HBT1.out 0).trans rfl
              have hf0 : w1.frozen? ⟨gt, 0, none⟩ = false := blk_fz HBT1.out 0
              clear hk hr hm
              go_wp2_with fail
              go_meet
              case rel =>
                refine ⟨none, 0, grown_put (grown_of_below HB1.out _) (by have := HG.out; omega) _, ?_, .inl rfl, ?_, ?_, ?_⟩
                · rw [HEE.out.1]; exact HN1.out.put (by have := HG.out; omega) HNE.out
                · rw [HEE.out.2.1, HEE.out.2.2]; exact heap_set1 0 _ HBT1.out rfl
                · rw [HEE.out.2.2]; exact Nat.le_refl 0
                · rw [HEE.out.2.2]; exact F_none _ _
            · have k0 : (x.f0 == 0) = false := beq_eq_false_iff_ne.mpr (by omega)
              have k1 : (x.f0 == 1) = false := beq_eq_false_iff_ne.mpr (by omega)
              have k2 : (x.f0 == 2) = true := beq_iff_eq.mpr hk
              have HEE := Aside0.mk (sp_miss L x hr (.inr (.inl hk)))
              have ht0 : w1.cell? ⟨gt, 0, none⟩ = some (.bool true) := (blk_cell HBT1.out 0).trans rfl
              have hf0 : w1.frozen? ⟨gt, 0, none⟩ = false := blk_fz HBT1.out 0
              clear hk hr hm
              go_wp2_with fail
              go_meet
              case rel =>
                refine ⟨none, 0, grown_put (grown_of_below HB1.out _) (by have := HG.out; omega) _, ?_, .inl rfl, ?_, ?_, ?_⟩
                · rw [HEE.out.1]; exact HN1.out.put (by have := HG.out; omega) HNE.out
                · rw [HEE.out.2.1, HEE.out.2.2]; exact heap_set1 0 _ HBT1.out rfl
                · rw [HEE.out.2.2]; exact Nat.le_refl 0
                · rw [HEE.out.2.2]; exact F_none _ _
            · have k0 : (x.f0 == 0) = false := beq_eq_false_iff_ne.mpr (by omega)
              have k1 : (x.f0 == 1) = false := beq_eq_false_iff_ne.mpr (by omega)
              have k2 : (x.f0 == 2) = false := beq_eq_false_iff_ne.mpr (by omega)
              have k3 : (x.f0 == 3) = true := beq_iff_eq.mpr hk
              have HEE := Aside0.mk (sp_miss L x hr (.inr (.inr hk)))
              have ht0 : w1.cell? ⟨gt, 0, none⟩ = some (.bool true) := (blk_cell HBT1.out 0).trans rfl
              have hf0 : w1.frozen? ⟨gt, 0, none⟩ = false := blk_fz HBT1.out 0
              clear hk hr hm
              go_wp2_with fail
              go_meet
              case rel =>
                refine ⟨none, 0, grown_put (grown_of_below HB1.out _) (by have := HG.out; omega) _, ?_, .inl rfl, ?_, ?_, ?_⟩
                · rw [HEE.out.1]; exact HN1.out.put (by have := HG.out; omega) HNE.out
                · rw [HEE.out.2.1, HEE.out.2.2]; exact heap_set1 0 _ HBT1.out rfl
                · rw [HEE.out.2.2]; exact Nat.le_refl 0
                · rw [HEE.out.2.2]; exact F_none _ _
          · clear hm1 hm2
            rw [hr] at hre
            have hjl : a.length < L.length := by rw [hLs]; simp
            have hyl : L[a.length] = y := by simp [hLs]
            have hrj : r = (a.length : Int) := by omega
            have hrd : rd_T27 L r = y := by rw [hre, hLs]; exact rd_mid a b y
            have HSP := Aside0.mk (sp_hit L x y r hr (by omega) hrd)
            have hr0 : ((0 : Int) ≤ r) = True := eq_true (by omega)
            have hr1 : (r < (L.length : Int)) = True := eq_true (by omega)
            have hd0 : decide ((0 : Int) ≤ r) = true := decide_eq_true (by omega)
            have hd1 : decide (r ≥ (0 : Int)) = true := decide_eq_true (by omega)
            have HYL : Aside0 (∃ h : a.length < L.length, L[a.length] = y) := ⟨⟨hjl, hyl⟩⟩
            have HRJ := Aside0.mk hrj
            obtain ⟨ad4, _, _, eA4, hrest⟩ := at_NE HN1.out a.length hjl
            clear hrest hyl hjl hre hrd hrj hr
            subst eA4
            obtain ⟨r1, hr1e⟩ : ∃ z : Int, wrap64 (r + 1) = z := ⟨_, rfl⟩
            have hr1w : IntKind.i64.wrap (r + 1) = r1 := (i64_w _).trans hr1e
            have HR1 := Aside0.mk (show r1 = (a.length : Int) + 1 by have h1 := HYL.out.1; have h2 := HLL.out; have h3 := HRJ.out; rw [← hr1e, h3]; unfold wrap64; omega)
            clear hLs
            rcases hks with hk | hk | hk
            · have k0 : (x.f0 == 0) = false := beq_eq_false_iff_ne.mpr (by omega)
              have k1 : (x.f0 == 1) = true := beq_iff_eq.mpr hk
              have HEE := Aside0.mk (HSP.out.1 hk)
              have ht0 : w1.cell? ⟨gt, 0, none⟩ = some (.bool true) := (blk_cell HBT1.out 0).trans rfl
              have hf0 : w1.frozen? ⟨gt, 0, none⟩ = false := blk_fz HBT1.out 0
              clear hk
              obtain ⟨w2, hw2⟩ : ∃ w2, w2 = w1.setCell ⟨gt, 0, none⟩ (.bool true) := ⟨_, rfl⟩
              have hbt2 : w2.heap[gt]? = some (.cells #[.bool true, .slice none 0 0, .int .i32 0, .bool false, .int .i64 0, .slice none 0 0] 36 (0, 0)) := by rw [hw2]; exact heap_set1 0 _ HBT1.out rfl
              have hv0 : w2.cell? ⟨gt, 0, none⟩ = some (.bool true) := (blk_cell hbt2 0).trans rfl
              have HBT2 := Aside0.mk hbt2
              have HN2 : Aside0 (NE B w2 B (.slice (some ad4) L.length c4) L) := ⟨by rw [hw2]; exact HN1.out.put (by have := HG.out; omega) HNE.out⟩
              have HG2 : Aside0 (wr.grownBy w2 (Value.slice (some ad4) L.length c4).ownBlock) := ⟨by rw [hw2]; exact grown_put (grown_of_below HB1.out _) (by have := HG.out; omega) _⟩
              have HS2 : Aside0 (B ≤ w2.heap.size ∧ wr.heap.size ≤ w2.heap.size) := ⟨by have h1 := HG2.out.size; have h2 := HG.out; omega⟩
              clear hbt2
              go_upto_region 14 with fail
              rw [← hw2]
              clear hw2
              go_wp2_with (first
                | (go_at_call 45; refine (delNE v5 L w3 B w2.heap.size HN3x.out (by have := HLL.out; omega) a.length HYL.out.1 r r1 HRJ.out HR1.out).mono ?_; rintro e w4 ⟨v6, rfl, hN, hg, ho⟩; have HN4x := Aside0.mk hN; have HG4 := Aside0.mk hg; have HO4 := Aside0.mk ho; clear hN hg ho)
                | (go_at_call 46; refine (cloneNE (some ad4) c4 L w2 B B HN2.out HS2.out.1 (by have := HLL.out; omega)).mono ?_; rintro e w3 ⟨v5, rfl, hN, hb⟩; have HN3x := Aside0.mk hN; have HB3 := Aside0.mk hb; clear hN hb))
              go_meet
              case rel =>
                obtain ⟨g, cap, e5, hg1, hg2⟩ := HN3x.out.form (by have := HYL.out.1; omega)
                have hlt := blk_lt HBT2.out
                have hb4 := (HG4.out.block gt (Nat.lt_of_lt_of_le hlt HB3.out.size) (fun e => by rw [e5] at e; have e : gt = g := Option.some.inj e; omega)).trans ((HB3.out.block gt hlt).trans HBT2.out)
                refine ⟨none, 0, grown_fresh (World.grownBy.trans HG2.out (grown_of_below HB3.out _)) HG4.out (fun k hk => by have := Kd.N_base HN3x.out k hk; have := HS2.out; omega), ?_, .inr ⟨g, by rw [HO4.out, e5]; rfl, by have := HS2.out; omega⟩, ?_, ?_, ?_⟩
                · rw [HEE.out.1]; exact HN4x.out.lower HS2.out.1
                · rw [HEE.out.2.1, HEE.out.2.2]; exact hb4
                · rw [HEE.out.2.2]; exact Nat.le_refl 0
                · rw [HEE.out.2.2]; exact F_none _ _
            · cases hy : y.f2 with
              | true =>
                have k0 : (x.f0 == 0) = false := beq_eq_false_iff_ne.mpr (by omega)
                have k1 : (x.f0 == 1) = false := beq_eq_false_iff_ne.mpr (by omega)
                have k2 : (x.f0 == 2) = true := beq_iff_eq.mpr hk
                have HEE := Aside0.mk (HSP.out.2.1 hk (by rw [hy]; rfl))
                have ht0 : w1.cell? ⟨gt, 0, none⟩ = some (.bool true) := (blk_cell HBT1.out 0).trans rfl
                have hf0 : w1.frozen? ⟨gt, 0, none⟩ = false := blk_fz HBT1.out 0
                have hl2 : w1.cell? ⟨(ad4.add (r.toNat * 3)).block, (ad4.add (r.toNat * 3)).off + 2, none⟩ = some (.bool true) := by rw [← hy]; exact at_NE2 HN1.out r _ HRJ.out HYL.out.1 y HYL.out.2
                clear hk
                obtain ⟨w2, hw2⟩ : ∃ w2, w2 = w1.setCell ⟨gt, 0, none⟩ (.bool true) := ⟨_, rfl⟩
                have hbt2 : w2.heap[gt]? = some (.cells #[.bool true, .slice none 0 0, .int .i32 0, .bool false, .int .i64 0, .slice none 0 0] 36 (0, 0)) := by rw [hw2]; exact heap_set1 0 _ HBT1.out rfl
                have hv0 : w2.cell? ⟨gt, 0, none⟩ = some (.bool true) := (blk_cell hbt2 0).trans rfl
                have HBT2 := Aside0.mk hbt2
                have HN2 : Aside0 (NE B w2 B (.slice (some ad4) L.length c4) L) := ⟨by rw [hw2]; exact HN1.out.put (by have := HG.out; omega) HNE.out⟩
                have HG2 : Aside0 (wr.grownBy w2 (Value.slice (some ad4) L.length c4).ownBlock) := ⟨by rw [hw2]; exact grown_put (grown_of_below HB1.out _) (by have := HG.out; omega) _⟩
                have HS2 : Aside0 (B ≤ w2.heap.size ∧ wr.heap.size ≤ w2.heap.size) := ⟨by have h1 := HG2.out.size; have h2 := HG.out; omega⟩
                clear hbt2
                go_upto_region 14 with fail
                rw [← hw2]
                clear hw2
                go_wp2_with (first
                  | (go_at_call 45; refine (delNE v5 L w3 B w2.heap.size HN3x.out (by have := HLL.out; omega) a.length HYL.out.1 r r1 HRJ.out HR1.out).mono ?_; rintro e w4 ⟨v6, rfl, hN, hg, ho⟩; have HN4x := Aside0.mk hN; have HG4 := Aside0.mk hg; have HO4 := Aside0.mk ho; clear hN hg ho)
                  | (go_at_call 46; refine (cloneNE (some ad4) c4 L w2 B B HN2.out HS2.out.1 (by have := HLL.out; omega)).mono ?_; rintro e w3 ⟨v5, rfl, hN, hb⟩; have HN3x := Aside0.mk hN; have HB3 := Aside0.mk hb; clear hN hb))
                go_meet
                case rel =>
                  obtain ⟨g, cap, e5, hg1, hg2⟩ := HN3x.out.form (by have := HYL.out.1; omega)
                  have hlt := blk_lt HBT2.out
                  have hb4 := (HG4.out.block gt (Nat.lt_of_lt_of_le hlt HB3.out.size) (fun e => by rw [e5] at e; have e : gt = g := Option.some.inj e; omega)).trans ((HB3.out.block gt hlt).trans HBT2.out)
                  refine ⟨none, 0, grown_fresh (World.grownBy.trans HG2.out (grown_of_below HB3.out _)) HG4.out (fun k hk => by have := Kd.N_base HN3x.out k hk; have := HS2.out; omega), ?_, .inr ⟨g, by rw [HO4.out, e5]; rfl, by have := HS2.out; omega⟩, ?_, ?_, ?_⟩
                  · rw [HEE.out.1]; exact HN4x.out.lower HS2.out.1
                  · rw [HEE.out.2.1, HEE.out.2.2]; exact hb4
                  · rw [HEE.out.2.2]; exact Nat.le_refl 0
                  · rw [HEE.out.2.2]; exact F_none _ _
              | false =>
                cases hu : x.f1.f2 with
                | true =>
                  have k0 : (x.f0 == 0) = false := beq_eq_false_iff_ne.mpr (by omega)
                  have k1 : (x.f0 == 1) = false := beq_eq_false_iff_ne.mpr (by omega)
                  have k2 : (x.f0 == 2) = true := beq_iff_eq.mpr hk
                  have HEE := Aside0.mk (HSP.out.2.2.1 hk (by rw [hy, hu]; rfl))
                  have ht0 : w1.cell? ⟨gt, 0, none⟩ = some (.bool true) := (blk_cell HBT1.out 0).trans rfl
                  have hf0 : w1.frozen? ⟨gt, 0, none⟩ = false := blk_fz HBT1.out 0
                  have hl2 : w1.cell? ⟨(ad4.add (r.toNat * 3)).block, (ad4.add (r.toNat * 3)).off + 2, none⟩ = some (.bool false) := by rw [← hy]; exact at_NE2 HN1.out r _ HRJ.out HYL.out.1 y HYL.out.2
                  have hz3 : w1.cell? ⟨gx, 3, none⟩ = some (.bool true) := by rw [← hu]; exact (blk_cell HBX1.out 3).trans rfl
                  clear hk
                  go_wp2_with fail
                  go_meet
                  case rel =>
                    refine ⟨none, 0, grown_put (grown_of_below HB1.out _) (by have := HG.out; omega) _, ?_, .inl rfl, ?_, ?_, ?_⟩
                    · rw [HEE.out.1]; exact HN1.out.put (by have := HG.out; omega) HNE.out
                    · rw [HEE.out.2.1, HEE.out.2.2]; exact heap_set1 0 _ HBT1.out rfl
                    · rw [HEE.out.2.2]; exact Nat.le_refl 0
                    · rw [HEE.out.2.2]; exact F_none _ _
                | false =>
                  have k0 : (x.f0 == 0) = false := beq_eq_false_iff_ne.mpr (by omega)
                  have k1 : (x.f0 == 1) = false := beq_eq_false_iff_ne.mpr (by omega)
                  have k2 : (x.f0 == 2) = true := beq_iff_eq.mpr hk
                  have HEE := Aside0.mk (HSP.out.2.1 hk (by rw [hy, hu]; rfl))
                  have ht0 : w1.cell? ⟨gt, 0, none⟩ = some (.bool true) := (blk_cell HBT1.out 0).trans rfl
                  have hf0 : w1.frozen? ⟨gt, 0, none⟩ = false := blk_fz HBT1.out 0
                  have hl2 : w1.cell? ⟨(ad4.add (r.toNat * 3)).block, (ad4.add (r.toNat * 3)).off + 2, none⟩ = some (.bool false) := by rw [← hy]; exact at_NE2 HN1.out r _ HRJ.out HYL.out.1 y HYL.out.2
                  have hz3 : w1.cell? ⟨gx, 3, none⟩ = some (.bool false) := by rw [← hu]; exact (blk_cell HBX1.out 3).trans rfl
                  clear hk
                  obtain ⟨w2, hw2⟩ : ∃ w2, w2 = w1.setCell ⟨gt, 0, none⟩ (.bool true) := ⟨_, rfl⟩
                  have hbt2 : w2.heap[gt]? = some (.cells #[.bool true, .slice none 0 0, .int .i32 0, .bool false, .int .i64 0, .slice none 0 0] 36 (0, 0)) := by rw [hw2]; exact heap_set1 0 _ HBT1.out rfl
                  have hv0 : w2.cell? ⟨gt, 0, none⟩ = some (.bool true) := (blk_cell hbt2 0).trans rfl
                  have HBT2 := Aside0.mk hbt2
                  have HN2 : Aside0 (NE B w2 B (.slice (some ad4) L.length c4) L) := ⟨by rw [hw2]; exact HN1.out.put (by have := HG.out; omega) HNE.out⟩
                  have HG2 : Aside0 (wr.grownBy w2 (Value.slice (some ad4) L.length c4).ownBlock) := ⟨by rw [hw2]; exact grown_put (grown_of_below HB1.out _) (by have := HG.out; omega) _⟩
                  have HS2 : Aside0 (B ≤ w2.heap.size ∧ wr.heap.size ≤ w2.heap.size) := ⟨by have h1 := HG2.out.size; have h2 := HG.out; omega⟩
                  clear hbt2
                  go_upto_region 14 with fail
                  rw [← hw2]
                  clear hw2
                  go_wp2_with (first
                    | (go_at_call 45; refine (delNE v5 L w3 B w2.heap.size HN3x.out (by have := HLL.out; omega) a.length HYL.out.1 r r1 HRJ.out HR1.out).mono ?_; rintro e w4 ⟨v6, rfl, hN, hg, ho⟩; have HN4x := Aside0.mk hN; have HG4 := Aside0.mk hg; have HO4 := Aside0.mk ho; clear hN hg ho)
                    | (go_at_call 46; refine (cloneNE (some ad4) c4 L w2 B B HN2.out HS2.out.1 (by have := HLL.out; omega)).mono ?_; rintro e w3 ⟨v5, rfl, hN, hb⟩; have HN3x := Aside0.mk hN; have HB3 := Aside0.mk hb; clear hN hb))
                  go_meet
                  case rel =>
                    obtain ⟨g, cap, e5, hg1, hg2⟩ := HN3x.out.form (by have := HYL.out.1; omega)
                    have hlt := blk_lt HBT2.out
                    have hb4 := (HG4.out.block gt (Nat.lt_of_lt_of_le hlt HB3.out.size) (fun e => by rw [e5] at e; have e : gt = g := Option.some.inj e; omega)).trans ((HB3.out.block gt hlt).trans HBT2.out)
                    refine ⟨none, 0, grown_fresh (World.grownBy.trans HG2.out (grown_of_below HB3.out _)) HG4.out (fun k hk => by have := Kd.N_base HN3x.out k hk; have := HS2.out; omega), ?_, .inr ⟨g, by rw [HO4.out, e5]; rfl, by have := HS2.out; omega⟩, ?_, ?_, ?_⟩
                    · rw [HEE.out.1]; exact HN4x.out.lower HS2.out.1
                    · rw [HEE.out.2.1, HEE.out.2.2]; exact hb4
                    · rw [HEE.out.2.2]; exact Nat.le_refl 0
                    · rw [HEE.out.2.2]; exact F_none _ _
            · have k0 : (x.f0 == 0) = false := beq_eq_false_iff_ne.mpr (by omega)
              have k1 : (x.f0 == 1) = false := beq_eq_false_iff_ne.mpr (by omega)
              have k2 : (x.f0 == 2) = false := beq_eq_false_iff_ne.mpr (by omega)
              have k3 : (x.f0 == 3) = true := beq_iff_eq.mpr hk
              have HEE := Aside0.mk (HSP.out.2.2.2 hk)
              have ht0 : w1.cell? ⟨gt, 0, none⟩ = some (.bool true) := (blk_cell HBT1.out 0).trans rfl
              have hf0 : w1.frozen? ⟨gt, 0, none⟩ = false := blk_fz HBT1.out 0
              clear hk
              obtain ⟨w2, hw2⟩ : ∃ w2, w2 = w1.setCell ⟨gt, 0, none⟩ (.bool true) := ⟨_, rfl⟩
              have hbt2 : w2.heap[gt]? = some (.cells #[.bool true, .slice none 0 0, .int .i32 0, .bool false, .int .i64 0, .slice none 0 0] 36 (0, 0)) := by rw [hw2]; exact heap_set1 0 _ HBT1.out rfl
              have hv0 : w2.cell? ⟨gt, 0, none⟩ = some (.bool true) := (blk_cell hbt2 0).trans rfl
              have HBT2 := Aside0.mk hbt2
              have HN2 : Aside0 (NE B w2 B (.slice (some ad4) L.length c4) L) := ⟨by rw [hw2]; exact HN1.out.put (by have := HG.out; omega) HNE.out⟩
              have HG2 : Aside0 (wr.grownBy w2 (Value.slice (some ad4) L.length c4).ownBlock) := ⟨by rw [hw2]; exact grown_put (grown_of_below HB1.out _) (by have := HG.out; omega) _⟩
              have HS2 : Aside0 (B ≤ w2.heap.size ∧ wr.heap.size ≤ w2.heap.size) := ⟨by have h1 := HG2.out.size; have h2 := HG.out; omega⟩
              clear hbt2
              obtain ⟨ad5, Ay, cy, e5, hy0, hy1, hy2, hly, hFy⟩ := at_NE HN2.out a.length HYL.out.1
              cases e5
              have hrt : r.toNat = a.length := by rw [HRJ.out, Int.toNat_natCast]
              rw [HYL.out.2] at hy0 hy1 hy2 hly hFy
              rw [← hrt] at hy0 hy1 hy2
              have hv1 : w2.cell? ⟨gt, 1, none⟩ = some (.slice none 0 0) := (blk_cell HBT2.out 1).trans rfl
              have hv2 : w2.cell? ⟨gt, 2, none⟩ = some (.int .i32 0) := (blk_cell HBT2.out 2).trans rfl
              have hv3 : w2.cell? ⟨gt, 3, none⟩ = some (.bool false) := (blk_cell HBT2.out 3).trans rfl
              have hf1 : w2.frozen? ⟨gt, 1, none⟩ = false := blk_fz HBT2.out 1
              have hf2 : w2.frozen? ⟨gt, 2, none⟩ = false := blk_fz HBT2.out 2
              have hf3 : w2.frozen? ⟨gt, 3, none⟩ = false := blk_fz HBT2.out 3
              have HLY := Aside0.mk hly
              have HFY := Aside0.mk hFy
              clear hly hFy hrt
              go_upto_region 18 with fail
              rw [← hw2]
              clear hw2
              go_wp2_with fail
              go_meet
              case rel =>
                refine ⟨Ay, cy, grown_put (grown_put (grown_put HG2.out (by have := HG.out; omega) _) (by have := HG.out; omega) _) (by have := HG.out; omega) _, ?_, .inl rfl, ?_, ?_, ?_⟩
                · rw [HEE.out.1]
                  have hgt : B ≤ gt := by have := HG.out; omega
                  exact ((HN2.out.put hgt HNE.out).put hgt HNE.out).put hgt HNE.out
                · rw [HEE.out.2.1, HEE.out.2.2]; exact heap_set1 3 _ (heap_set1 2 _ (heap_set1 1 _ HBT2.out rfl) rfl) rfl
                · rw [HEE.out.2.2]; exact HLY.out
                · rw [HEE.out.2.2]
                  have hgt : B ≤ gt := by have := HG.out; omega
                  exact F_put _ (F_put _ (F_put _ HFY.out hgt) hgt) hgt

      case rest =>
        obtain ⟨Ae, ce, hS⟩ := hcut.out
        obtain ⟨hgr, hne, hat, hbt, hle, hfe⟩ := hS
        obtain ⟨L2, hL2⟩ : ∃ L2, L2 = spL L x := ⟨_, rfl⟩
        obtain ⟨ok, hok⟩ : ∃ ok, ok = spB L x := ⟨_, rfl⟩
        obtain ⟨y, hy⟩ : ∃ y, y = spE L x := ⟨_, rfl⟩
        have HT : Aside0 (spTold L x = ⟨ok, y, (L2.length : Int), sortE L2⟩) := ⟨by unfold spTold; rw [hL2, hok, hy]⟩
        have HAP2 := Aside0.mk (apart_eq hL2.symm HAP.out)
        have HNX2 := Aside0.mk (HNX.out.trans hL2.symm)
        have HLL2 : Aside0 (L2.length ≤ 201) := ⟨by rw [hL2]; have h1 := spL_len L x; have h2 := HLL.out; omega⟩
        rw [← hL2] at hne
        rw [← hok, ← hy] at hbt
        rw [← hy] at hle hfe
        obtain ⟨A5, c5, e5⟩ := Kd.N_slice hne
        subst e5
        have HGR := Aside0.mk hgr
        have HN5 := Aside0.mk hne
        have HAT := Aside0.mk hat
        have HBT := Aside0.mk hbt
        have HLE := Aside0.mk hle
        have HFE := Aside0.mk hfe
        have HSC : Aside0 (B ≤ wc.heap.size ∧ wr.heap.size ≤ wc.heap.size) := ⟨by have h1 := HG.out; have h2 := hgr.size; omega⟩
        clear hcut hgr hne hat hbt hle hfe hL2 hok hy HAP HNX HBX HBT1 HBX1 HNA HFA HBA HN1 HF1 HB1 hr hz0
        go_upto_region 21 with (go_at_call 46; refine (cloneNE A5 c5 L2 wc B B HN5.out HSC.out.1 (by have := HLL2.out; omega)).mono ?_; rintro e w2 ⟨v6, rfl, hN, hb⟩; obtain ⟨A6, c6, rfl⟩ := Kd.N_slice hN; have hbt2 := (hb.block _ (blk_lt HBT.out)).trans HBT.out; have hq4 : w2.cell? ⟨gt, 4, none⟩ = some (.int .i64 0) := (blk_cell hbt2 4).trans rfl; have hq5 : w2.cell? ⟨gt, 5, none⟩ = some (.slice none 0 0) := (blk_cell hbt2 5).trans rfl; have hf4 : w2.frozen? ⟨gt, 4, none⟩ = false := blk_fz hbt2 4; have hf5 : w2.frozen? ⟨gt, 5, none⟩ = false := blk_fz hbt2 5; have HBT2 := Aside0.mk hbt2; have HN6 := Aside0.mk hN; have HB2 := Aside0.mk hb; clear hbt2 hN hb)
        obtain ⟨w3, hw3⟩ : ∃ w3, w3 = (w2.setCell ⟨gt, 4, none⟩ (.int .i64 (L2.length : Int))).setCell ⟨gt, 5, none⟩ (.slice A6 L2.length c6) := ⟨_, rfl⟩
        rw [← hw3]
        have hgB : B ≤ gt ∧ wr.heap.size ≤ gt := by have := HG.out; omega
        have hne6 : some gt ≠ (Value.slice A6 L2.length c6).ownBlock := Kd.N_ne HN6.out HBT2.out (by decide)
        have hne5 : some gt ≠ (Value.slice A5 L2.length c5).ownBlock := Kd.N_ne HN5.out HBT.out (by decide)
        have hbt3 : w3.heap[gt]? = some (.cells #[.bool ok, .slice Ae y.f0.length ce, .int .i32 y.f1, .bool y.f2, .int .i64 (L2.length : Int), .slice A6 L2.length c6] 36 (0, 0)) := by rw [hw3]; exact heap_set1 5 _ (heap_set1 4 _ HBT2.out rfl) rfl
        have hN63 : NE B w3 wc.heap.size (.slice A6 L2.length c6) L2 := by rw [hw3]; exact (HN6.out.put hgB.1 hne6).put hgB.1 hne6
        have hN53 : NE B w3 B (.slice A5 L2.length c5) L2 := by rw [hw3]; exact ((HN5.out.below HB2.out).put hgB.1 hne5).put hgB.1 hne5
        have hFE3 : Kd.F (Kd.int .u8) w3 (fun k => k < B) Ae y.f0.length y.f0 := by rw [hw3]; exact F_put _ (F_put _ (Kd.F_below HFE.out HB2.out) hgB.1) hgB.1
        have hGR3 : wr.grownBy w3 (Value.slice A4 L.length c4).ownBlock := by rw [hw3]; exact grown_put (grown_put (World.grownBy.trans HGR.out (grown_of_below HB2.out _)) hgB.2 _) hgB.2 _
        have hs3 : w3.cell? ⟨gt, 5, none⟩ = some (.slice A6 L2.length c6) := (blk_cell hbt3 5).trans rfl
        have HBT3 := Aside0.mk hbt3
        have HN63 := Aside0.mk hN63
        have HN53 := Aside0.mk hN53
        have HFE3 := Aside0.mk hFE3
        have HGR3 := Aside0.mk hGR3
        have HNE6 := Aside0.mk hne6
        have HBS6 := Aside0.mk (Kd.N_base hN63)
        have HLT5 := Aside0.mk (Kd.N_lt HN5.out)
        clear hw3 hgB hne6 hne5 hbt3 hN63 hN53 hFE3 hGR3 hq4 hq5 hf4 hf5 HN6 HBT2
        go_upto_region 22 with (go_at_call 47; refine (sortent_calls (.slice A6 L2.length c6) L2 w3 wc.heap.size _ HN63.out (by have := HLL2.out; omega) HAP2.out).mono ?_; rintro e w4 ⟨rfl, hN, hg⟩; have hbt4 := (hg.block gt (blk_lt HBT3.out) HNE6.out).trans HBT3.out; have hp0 : w4.cell? ⟨gt, 0, none⟩ = some (.bool ok) := (blk_cell hbt4 0).trans rfl; have hp1 : w4.cell? ⟨gt, 1, none⟩ = some (.slice Ae y.f0.length ce) := (blk_cell hbt4 1).trans rfl; have hp2 : w4.cell? ⟨gt, 2, none⟩ = some (.int .i32 y.f1) := (blk_cell hbt4 2).trans rfl; have hp3 : w4.cell? ⟨gt, 3, none⟩ = some (.bool y.f2) := (blk_cell hbt4 3).trans rfl; have hp4 : w4.cell? ⟨gt, 4, none⟩ = some (.int .i64 (L2.length : Int)) := (blk_cell hbt4 4).trans rfl; have hp5 : w4.cell? ⟨gt, 5, none⟩ = some (.slice A6 L2.length c6) := (blk_cell hbt4 5).trans rfl; have HN64 := Aside0.mk hN; have HG4 := Aside0.mk hg; clear hbt4 hN hg)
        have hfar : ∀ k, k < wc.heap.size → some k ≠ (Value.slice A6 L2.length c6).ownBlock := fun k hk e => by have := HBS6.out k e.symm; omega
        have hGR4 : wr.grownBy w4 (Value.slice A4 L.length c4).ownBlock := grown_fresh HGR3.out HG4.out (fun k hk => by have := HBS6.out k hk; have := HSC.out; omega)
        have hN54 : NE B w4 B (.slice A5 L2.length c5) L2 := HN53.out.step (fun k hk hlt => HG4.out.block k hlt (hfar k (by
          rcases hk with hk | hk
          · have := HSC.out; omega
          · exact HLT5.out k hk.symm)))
        have hFE4 : Kd.F (Kd.int .u8) w4 (fun k => k < B) Ae y.f0.length y.f0 := Kd.F_step HFE3.out (fun k hk hlt => HG4.out.block k hlt (hfar k (by have := HSC.out; omega)))
        have hO4 : Kd.N k36 36 w4 B (fun k => some k ≠ (Value.slice A5 L2.length c5).ownBlock) (.slice A3 out.length c3) out := Kd.N_mono (Kd.N_step HN3.out (fun k hk hlt => hGR4.block k hlt hk.1)) (fun k hk => by
          rcases HAT.out with h | ⟨q, h, hq⟩
          · rw [h]; exact hk.1
          · rw [h]; intro e; have e : k = q := Option.some.inj e; have := hk.2; omega)
        have hB4 : Below B w w4 := Below.grown HB.out hGR4 (by have := HG.out; omega) (Kd.N_base HN4.out)
        have hbs4 : B ≤ w4.heap.size := by have h1 := hGR4.size; have h2 := HG.out; omega
        have hlt5 : ∀ k, (Value.slice A5 L2.length c5).ownBlock = some k → k < w4.heap.size := Kd.N_lt hN54
        have HO4 := Aside0.mk hO4
        have HB4 := Aside0.mk hB4
        have HBS4 := Aside0.mk hbs4
        have HLT54 := Aside0.mk hlt5
        have HN54 := Aside0.mk hN54
        have HP4 : Aside0 (Kd.FK k36 w4 (fun k => k < B ∨ some k = (Value.slice A6 L2.length c6).ownBlock) ⟨ok, y, (L2.length : Int), sortE L2⟩ [.bool ok, .slice Ae y.f0.length ce, .int .i32 y.f1, .bool y.f2, .int .i64 (L2.length : Int), .slice A6 L2.length c6]) := ⟨told_F (sortE_len L2).symm HLE.out (Kd.F_mono hFE4 (fun k hk => .inl hk)) (Kd.N_reads' HN64.out).2.1 (Kd.N_F HN64.out)⟩
        have HOK4 : Aside0 (∀ k, (k < B ∨ some k = (Value.slice A6 L2.length c6).ownBlock) → some k ≠ (Value.slice A5 L2.length c5).ownBlock ∧ some k ≠ (Value.slice A3 out.length c3).ownBlock) := ⟨fun k hk => by
          rcases hk with hk | hk
          · exact ⟨fun e => by have := Kd.N_base HN5.out k e.symm; omega, fun e => by have := Kd.N_base HN3.out k e.symm; omega⟩
          · have h6 := HBS6.out k hk.symm
            exact ⟨fun e => by have := HLT5.out k e.symm; omega, fun e => by have := Kd.N_lt HN3.out k e.symm; have := HSC.out; omega⟩⟩
        clear hfar hGR4 hN54 hFE4 hO4 hB4 hbs4 hlt5
        go_wp2_with (at_builtin; refine Kd.N_append k36 (w0 := w) B rfl (.tmp 86) (.tmp 88) 32 36 (.agg #[.bool false, .slice none 0 0, .int .i32 0, .bool false, .int .i64 0, .slice none 0 0]) 72 rfl Tryd.underlying32 info36e rfl (by decide) (by decide) (.slice A3 out.length c3) out ⟨ok, y, (L2.length : Int), sortE L2⟩ [.bool ok, .slice Ae y.f0.length ce, .int .i32 y.f1, .bool y.f2, .int .i64 (L2.length : Int), .slice A6 L2.length c6] (fun k => some k ≠ (Value.slice A5 L2.length c5).ownBlock) (fun k => k < B ∨ some k = (Value.slice A6 L2.length c6).ownBlock) rfl rfl HP4.out HOK4.out (fun k hk e => by have := HLT54.out k e.symm; omega) HO4.out HB4.out HBS4.out (by have := HOL.out; omega) ?_; intro v7 w5 hN hb hg hat; have HN7 := Aside0.mk hN; have HB5 := Aside0.mk hb; have HG5 := Aside0.mk hg; clear hN hb hg hat)
        go_roundg (gk - 1)
        case measure => have := HJ2.out; omega
        case rel =>
          refine ⟨i1, rfl, ⟨j + 1, HI1.out, by have := HJ2.out; omega, HB5.out, ?_, ?_⟩⟩
          · rw [HNX2.out]
            exact HN54.out.step (fun k hk hlt => HG5.out.block k hlt (fun e => by
              rcases hk with hk | hk
              · have := Kd.N_base HO4.out k e.symm; omega
              · exact HO4.out.1 k e.symm hk))
          · rw [HRN.out, HT.out]
            exact HN7.out
    · have q0 : decide (i < (l.length : Int)) = false := decide_eq_false hi
      obtain ⟨j, hij, hjk, hB, hN4, hN3⟩ := HJ.out
      have hje : j = l.length := by omega
      rw [hje, List.take_length] at hN3
      have HB := Aside0.mk hB
      have HN3 := Aside0.mk (Kd.N_mono hN3 (ok' := fun _ => True) (fun _ _ => trivial))
      clear hij hjk hje hB hN4 hN3 HJ hi
      go_wp2_with fail
      go_ret
      exact ⟨_, rfl, HN3.out, HB.out⟩
end Go.Proofs.YteekkpofcbcikaaDoor.HandWan
