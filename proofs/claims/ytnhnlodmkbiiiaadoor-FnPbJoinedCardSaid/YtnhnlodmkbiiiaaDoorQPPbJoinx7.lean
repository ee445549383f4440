/- Printed by a program of this session (it drives the print of the kit, with contracts proved by hand beside): the Go functions of one law as Lean functions, and that the Go code comes to what they say. -/
import Derived.Test.YtnhnlodmkbiiiaaDoorQPPbJoinx0
import Derived.Test.YtnhnlodmkbiiiaaDoorQPPbJoinx6
namespace Go.Proofs.YtnhnlodmkbiiiaaDoor.PPbJoin
open Go.RowKit Go.Proofs.YtnhnlodmkbiiiaaDoorL Go.Proofs.YtnhnlodmkbiiiaaDoorW.PrintWords Go.Proofs.YtnhnlodmkbiiiaaDoorW.PrintLast Go.Proofs.YtnhnlodmkbiiiaaDoorW.PrintMore
attribute [local go_sem] max2_int min2_int max_two min_two max_three min_three max_four min_four   -- for this text's walks alone
set_option linter.unusedVariables false
set_option linter.unusedSimpArgs false

/-! ### spec_PbBytes: function 23 -/
def spec_PbBytes.l0 : Nat → List Int → List (S27) → Int → Int → Bool → List Int → List (S27) → Option (List Int)
 | 0, _, _, _, _, _, _, _ => none
 | k + 1, x3, x8, x9, x10, x154000, x154001, x154002 => if x10 < x9 then (if 0 ≤ x10 then (if x10 < (x8.length : Int) then ((spec_PbLinkBytes.f ((rd_T27 x8 x10).f0) ((rd_T27 x8 x10).f1) ((rd_T27 x8 x10).f2) ((rd_T27 x8 x10).f3) ((rd_T27 x8 x10).f4) ((rd_T27 x8 x10).f5)).bind fun t159 => ((spec_pbField.f k 2 t159).bind fun t162 => (if x3.length + t162.length < 140737488355328 then (spec_PbBytes.l0 k (x3 ++ t162) x8 x9 (wrap64 (x10 + 1)) x154000 x154001 x154002) else (none)))) else (none)) else (none)) else (if x154000 = true then ((spec_pbField.f k 1 x154001).bind fun t168 => (if x3.length + t168.length < 140737488355328 then (some (x3 ++ t168)) else (none))) else (some x3))
def spec_PbBytes.f (k : Nat) (a0_0 : Bool) (l0_1 : List Int) (l0_2 : List (S27)) : Option (List Int) := spec_PbBytes.l0 k (([] : List Int)) l0_2 (l0_2.length : Int) 0 a0_0 l0_1 l0_2
set_option maxHeartbeats 8000000 in
set_option maxRecDepth 100000 in
theorem spec_PbBytes.calls (k : Nat) (a0_0 : Bool) (A0_1 : Option Addr) (c0_1 : Nat) (l0_1 : List Int) (A0_2 : Option Addr) (c0_2 : Nat) (l0_2 : List (S27)) (r : List Int) (w : World) (hr0_1 : Kd.C (Kd.int .u8) w A0_1 l0_1.length l0_1) (hc0_1 : l0_1.length ≤ c0_1) (hr0_2 : Kd.C k27 w A0_2 l0_2.length l0_2) (hc0_2 : l0_2.length ≤ c0_2) (h : spec_PbBytes.f k a0_0 l0_1 l0_2 = some r) :
  Calls Tryd.prog 23 #[.agg #[.bool a0_0, .slice A0_1 l0_1.length c0_1, .slice A0_2 l0_2.length c0_2]] w fun e w' => ∃ v0_ : Value, e = .returned (v0_) ∧ Kd.R (Kd.int .u8) 5 w' w.heap.size (fun _ => True) v0_ r ∧ Below w.heap.size w w' := by
 have hu36 := Tryd.underlying36
 have hu27 := Tryd.underlying27
 have HR0_1 := Aside0.mk hr0_1
 have HC0_1 := Aside0.mk hc0_1
 clear hr0_1 hc0_1
 have HR0_2 := Aside0.mk hr0_2
 have HC0_2 := Aside0.mk hc0_2
 clear hr0_2 hc0_2
 have HB := Aside0.mk (Below.refl w.heap.size w)
 have H : (spec_PbBytes.l0 k (([] : List Int)) l0_2 (l0_2.length : Int) 0 a0_0 l0_1 l0_2) = some r := h
 clear h
 obtain ⟨y154, hy154⟩ : ∃ y_ : List Int, y_ = (([] : List Int)) := ⟨_, rfl⟩
 replace H : (spec_PbBytes.l0 k y154 l0_2 (l0_2.length : Int) 0 a0_0 l0_1 l0_2) = some r := by first | (rw [hy154]; with_reducible exact H) | (have H2_ := (Option.bind_some _ _).symm.trans H; rw [hy154]; with_reducible exact H2_) | (have H2_ := (Option.bind_some _ _).symm.trans H; with_reducible exact H2_) | with_reducible exact H | (rw [hy154]; exact H) | exact H
 have Ny154 := Aside0.mk hy154
 clear hy154
 have H' := Aside0.mk H
 clear H
 go_enter Tryd.func23, Tryd.ntmps23
 go_wp2_with (first | ((with_reducible refine gate_dst (N := 1) rfl ?_); refine box_event ?hg (N := 1) ?hd (cs := #[.bool a0_0, .slice A0_1 l0_1.length c0_1, .slice A0_2 l0_2.length c0_2]) (t := 36) ?hr ?_; (case hd => rfl); (case hg => rfl); (case hr => first | (go_simp; done) | (go_simp; rfl)); intro gb153 hg w2 hbox hb; have n0_ := Aside0.mk (below_step (by repeat (first | (with_reducible first | exact HB.out | apply below_alloc | apply pw_below_drewN | apply below_drew1) | exact HB.out)) hb); have n1_ := Aside0.mk (hbox); have n2_ := Aside0.mk ((by rw [hg]; exact (below_size (by repeat (first | (with_reducible first | exact HB.out | apply below_alloc | apply pw_below_drewN | apply below_drew1) | exact HB.out))) : w.heap.size ≤ gb153)); have n3_ := Aside0.mk ((by rw [hg]; exact (below_size (by repeat (first | (with_reducible first | exact HB.out | apply below_alloc | apply pw_below_drewN | apply below_drew1) | exact HB.out))) : w.heap.size ≤ gb153)); clear HB; have HB := n0_; have BK153 := n1_; have GW153 := n2_; have GE153 := n3_; clear n0_ n1_ n2_ n3_; clear hb hbox hg) | ((with_reducible refine gate_dst (N := 6) rfl ?_); refine Kd.R_lit (Kd.int .u8) _ 5 ?hg (N := 6) ?hd (xs := ([] : List Int)) (inner := []) (ok := fun _ => True) (okp := fun _ => True) ?hr ?hp (fun _ hk => hk) trivial (Below.refl _ _) (Nat.le_refl _) (by simp) ?_; (case hd => rfl); (case hg => rfl); (case hr => first | (go_simp; done) | (go_simp; rfl)); (case hp => exact (Reps.none _ _)); intro v155 w3 ho4 hb hg_ hnew_; clear hg_ hnew_; (first | rw [← Ny154.out] at ho4 | (simp only [Int.reduceToNat] at ho4; rw [← Ny154.out] at ho4)); have n0_ := Aside0.mk (Kd.R_lower ho4 (below_size (by repeat (first | (with_reducible first | exact HB.out | apply below_alloc | apply pw_below_drewN | apply below_drew1 | refine below_set ?_ GE153.out) | exact HB.out)))); have n1_ := Aside0.mk (blk_below (g := gb153) (o := .cells #[.bool a0_0, .slice A0_1 l0_1.length c0_1, .slice A0_2 l0_2.length c0_2] 36 (0, 0)) (by (with_reducible repeat (first | refine blk_drewN ?_ _ | refine blk_drew ?_ | refine blk_alloc ?_ _)); exact BK153.out) hb); have n2_ := Aside0.mk (below_step (by repeat (first | (with_reducible first | exact HB.out | apply below_alloc | apply pw_below_drewN | apply below_drew1 | refine below_set ?_ GE153.out) | exact HB.out)) hb); clear BK153; clear HB; have HO156 := n0_; have BK153 := n1_; have HB := n2_; clear n0_ n1_ n2_; clear hb ho4; have hcz5_0 : w3.cell? ⟨gb153, 0, none⟩ = some (.bool a0_0) := (blk_cell BK153.out 0).trans rfl; have hcz5_1 : w3.cell? ⟨gb153, 1, none⟩ = some (.slice A0_1 l0_1.length c0_1) := (blk_cell BK153.out 1).trans rfl; have hcz5_2 : w3.cell? ⟨gb153, 2, none⟩ = some (.slice A0_2 l0_2.length c0_2) := (blk_cell BK153.out 2).trans rfl; have hfz5_0 := blk_frozen BK153.out 0; have hfz5_1 := blk_frozen BK153.out 1; have hfz5_2 := blk_frozen BK153.out 2))
 (try simp only [Act.put, List.setIfInBounds_toArray, List.set_cons_zero, List.set_cons_succ])
 go_loopg [3, 10] k (fun kq v3 v10 w' => ∃ (x3_1 : List Int) (x10_1 : Int), v10 = .int .i64 x10_1 ∧ Aside0 (spec_PbBytes.l0 kq x3_1 l0_2 (l0_2.length : Int) x10_1 a0_0 l0_1 l0_2 = some r) ∧ Aside0 (kq ≤ k) ∧ Aside0 (Kd.R (Kd.int .u8) 5 w' w.heap.size (fun _ => True) v3 x3_1) ∧ Aside0 (w'.heap[gb153]? = some (.cells #[.bool a0_0, (.slice A0_1 l0_1.length c0_1), (.slice A0_2 l0_2.length c0_2)] 36 (0, 0))) ∧ Aside0 (Below w.heap.size w w'))
 case atStart => exact ⟨(y154), (0), (by first | rfl | (simp; done) | (simp [*]; done)), H', ⟨Nat.le_refl _⟩, ⟨by (with_reducible repeat (first | apply Kd.R_alloc | apply Kd.R_drewN | apply Kd.R_drew)); exact HO156.out⟩, ⟨by (with_reducible repeat (first | refine blk_drewN ?_ _ | refine blk_drew ?_ | refine blk_alloc ?_ _)); exact BK153.out⟩, ⟨by repeat (first | (with_reducible first | exact HB.out | apply below_alloc | apply pw_below_drewN | apply below_drew1 | refine below_set ?_ GE153.out) | exact HB.out)⟩⟩
 case round =>
  clear H'
  try clear c2
  try clear p2
  try clear hcz5_0
  try clear hcz5_1
  try clear hcz5_2
  try clear hfz5_0
  try clear hfz5_1
  try clear hfz5_2
  obtain ⟨x3_1, x10_1, rfl, HA, HK1, HO_3, BK153, HB⟩ := hrel
  cases gk with
  | zero => exact absurd HA.out (by simp [spec_PbBytes.l0])
  | succ k1 =>
   have H := HA.out
   clear HA
   simp only [spec_PbBytes.l0] at H
   by_cases c6 : x10_1 < (l0_2.length : Int)
   ·rw [if_pos c6] at H
    have c6b0 : decide (x10_1 < (l0_2.length : Int)) = true := decide_eq_true c6
    clear c6
    by_cases c7 : 0 ≤ x10_1
    ·rw [if_pos c7] at H
     have c7b0 : decide (0 ≤ x10_1) = true := decide_eq_true c7
     clear c7
     by_cases c8 : x10_1 < (l0_2.length : Int)
     ·rw [if_pos c8] at H
      have c8b0 : decide (x10_1 < (l0_2.length : Int)) = true := decide_eq_true c8
      clear c8
      replace H := Option.bind_eq_some_iff.mp H
      obtain ⟨t159, A90, H⟩ := H
      replace H : ((spec_pbField.f k1 2 t159).bind fun t162 => (if x3_1.length + t162.length < 140737488355328 then (spec_PbBytes.l0 k1 (x3_1 ++ t162) l0_2 (l0_2.length : Int) (wrap64 (x10_1 + 1)) a0_0 l0_1 l0_2) else (none))) = some r := H
      have A9 := Aside0.mk A90
      clear A90
      replace H := Option.bind_eq_some_iff.mp H
      obtain ⟨t162, A100, H⟩ := H
      replace H : (if x3_1.length + t162.length < 140737488355328 then (spec_PbBytes.l0 k1 (x3_1 ++ t162) l0_2 (l0_2.length : Int) (wrap64 (x10_1 + 1)) a0_0 l0_1 l0_2) else (none)) = some r := H
      have A10 := Aside0.mk A100
      clear A100
      by_cases c11 : x3_1.length + t162.length < 140737488355328
      ·rw [if_pos c11] at H
       have LMc11 := Aside0.mk c11
       clear c11
       obtain ⟨y165, hy165⟩ : ∃ y_ : List Int, y_ = (x3_1 ++ t162) := ⟨_, rfl⟩
       replace H : (spec_PbBytes.l0 k1 y165 l0_2 (l0_2.length : Int) (wrap64 (x10_1 + 1)) a0_0 l0_1 l0_2) = some r := by first | (rw [hy165]; with_reducible exact H) | (have H2_ := (Option.bind_some _ _).symm.trans H; rw [hy165]; with_reducible exact H2_) | (have H2_ := (Option.bind_some _ _).symm.trans H; with_reducible exact H2_) | with_reducible exact H | (rw [hy165]; exact H) | exact H
       have Ny165 := Aside0.mk hy165
       clear hy165
       have H' := Aside0.mk H
       clear H
       have p157 : 0 ≤ (x10_1 : Int) := of_decide_eq_true (by first | (with_reducible assumption) | assumption)
       have q157 : x10_1 < (l0_2.length : Int) := of_decide_eq_true (by first | (with_reducible assumption) | assumption)
       obtain ⟨ad157, A157_3, c157_3, e157, hx157_0, hx157_1, hx157_2, hx157_3, hx157_4, hx157_5, hl157_3, hi157_3⟩ := at_T27 HR0_2.out x10_1 p157 q157
       cases e157
       replace hx157_0 := (HB.out.cell (World.block_lt_of_cell? w _ hx157_0)).trans hx157_0
       replace hx157_1 := (HB.out.cell (World.block_lt_of_cell? w _ hx157_1)).trans hx157_1
       replace hx157_2 := (HB.out.cell (World.block_lt_of_cell? w _ hx157_2)).trans hx157_2
       replace hx157_3 := (HB.out.cell (World.block_lt_of_cell? w _ hx157_3)).trans hx157_3
       replace hx157_4 := (HB.out.cell (World.block_lt_of_cell? w _ hx157_4)).trans hx157_4
       replace hx157_5 := (HB.out.cell (World.block_lt_of_cell? w _ hx157_5)).trans hx157_5
       have HR157_3 := Aside0.mk hi157_3
       have HC157_3 := Aside0.mk hl157_3
       clear hi157_3 hl157_3
       replace p157 := eq_true p157
       replace q157 := eq_true q157
       go_wp2_with (first | ((with_reducible refine gate_dst (N := 5) rfl ?_); refine box_event ?hg (N := 5) ?hd (cs := #[.bool false, .bool false, .bool false, .slice none 0 0, .string (⟨#[]⟩ : ByteArray), .int .u64 0]) (t := 27) ?hr ?_; (case hd => rfl); (case hg => rfl); (case hr => first | (go_simp; done) | (go_simp; rfl)); intro gb158 hg w12 hbox hb; have n0_ := Aside0.mk (Kd.R_below (by (with_reducible repeat (first | apply Kd.R_alloc | apply Kd.R_drewN | apply Kd.R_drew)); exact HO_3.out) hb); have n1_ := Aside0.mk (blk_below (g := gb153) (o := .cells #[.bool a0_0, .slice A0_1 l0_1.length c0_1, .slice (some ad157) l0_2.length c0_2] 36 (0, 0)) (by (with_reducible repeat (first | refine blk_drewN ?_ _ | refine blk_drew ?_ | refine blk_alloc ?_ _)); exact BK153.out) hb); have n2_ := Aside0.mk (below_step (by repeat (first | (with_reducible first | exact HB.out | apply below_alloc | apply pw_below_drewN | apply below_drew1 | refine below_set ?_ GE153.out) | exact HB.out)) hb); have n3_ := Aside0.mk (hbox); have n4_ := Aside0.mk ((by rw [hg]; exact (below_size (by repeat (first | (with_reducible first | exact HB.out | apply below_alloc | apply pw_below_drewN | apply below_drew1 | refine below_set ?_ GE153.out) | exact HB.out))) : w.heap.size ≤ gb158)); have n5_ := Aside0.mk ((by rw [hg]; exact (below_size (by repeat (first | (with_reducible first | exact HB.out | apply below_alloc | apply pw_below_drewN | apply below_drew1 | refine below_set ?_ GE153.out) | exact HB.out))) : w.heap.size ≤ gb158)); have n6_ := Aside0.mk ((by rw [hg]; exact Nat.ne_of_lt (blk_lt (g := gb153) (o := .cells #[.bool a0_0, .slice A0_1 l0_1.length c0_1, .slice (some ad157) l0_2.length c0_2] 36 (0, 0)) (by (with_reducible repeat (first | refine blk_drewN ?_ _ | refine blk_drew ?_ | refine blk_alloc ?_ _)); exact BK153.out)) : gb153 ≠ gb158)); have n7_ := Aside0.mk ((by rw [hg]; exact Nat.ne_of_gt (blk_lt (g := gb153) (o := .cells #[.bool a0_0, .slice A0_1 l0_1.length c0_1, .slice (some ad157) l0_2.length c0_2] 36 (0, 0)) (by (with_reducible repeat (first | refine blk_drewN ?_ _ | refine blk_drew ?_ | refine blk_alloc ?_ _)); exact BK153.out)) : gb158 ≠ gb153)); clear HO_3; clear BK153; clear HB; have HO_3 := n0_; have BK153 := n1_; have HB := n2_; have BK158 := n3_; have GW158 := n4_; have GE158 := n5_; have NB153_158 := n6_; have NB158_153 := n7_; clear n0_ n1_ n2_ n3_ n4_ n5_ n6_ n7_; clear hb hbox hg; have hnb13 := NB158_153.out; have hnc13 := NB153_158.out; have hcz14_0 : w12.cell? ⟨gb158, 0, none⟩ = some (.bool false) := (blk_cell BK158.out 0).trans rfl; have hcz14_1 : w12.cell? ⟨gb158, 1, none⟩ = some (.bool false) := (blk_cell BK158.out 1).trans rfl; have hcz14_2 : w12.cell? ⟨gb158, 2, none⟩ = some (.bool false) := (blk_cell BK158.out 2).trans rfl; have hcz14_3 : w12.cell? ⟨gb158, 3, none⟩ = some (.slice none 0 0) := (blk_cell BK158.out 3).trans rfl; have hcz14_4 : w12.cell? ⟨gb158, 4, none⟩ = some (.string (⟨#[]⟩ : ByteArray)) := (blk_cell BK158.out 4).trans rfl; have hcz14_5 : w12.cell? ⟨gb158, 5, none⟩ = some (.int .u64 0) := (blk_cell BK158.out 5).trans rfl; have hfz14_0 := blk_frozen BK158.out 0; have hfz14_1 := blk_frozen BK158.out 1; have hfz14_2 := blk_frozen BK158.out 2; have hfz14_3 := blk_frozen BK158.out 3; have hfz14_4 := blk_frozen BK158.out 4; have hfz14_5 := blk_frozen BK158.out 5) | ((with_reducible refine gate_callee (f := 19) rfl ?_); refine goesL_ (some 16) rfl rfl Tryd.func19 (by kernel_rfl) rfl #[.agg #[.bool ((rd_T27 l0_2 x10_1).f0), .bool ((rd_T27 l0_2 x10_1).f1), .bool ((rd_T27 l0_2 x10_1).f2), .slice A157_3 ((rd_T27 l0_2 x10_1).f3).length c157_3, .string ((rd_T27 l0_2 x10_1).f4), .int .u64 ((rd_T27 l0_2 x10_1).f5)]] rfl (by (try simp only [List.map_toArray, List.map_cons, List.map_nil]); first | done | rfl | (simp only [List.length_drop, List.length_take]; rfl)) ?_; (with_reducible refine (spec_PbLinkBytes.calls ((rd_T27 l0_2 x10_1).f0) ((rd_T27 l0_2 x10_1).f1) ((rd_T27 l0_2 x10_1).f2) _ _ ((rd_T27 l0_2 x10_1).f3) ((rd_T27 l0_2 x10_1).f4) ((rd_T27 l0_2 x10_1).f5) t159 _ ?side1 ?side2 A9.out).mono ?_); (case side1 => exact Kd.C_below HR157_3.out (by repeat (first | (with_reducible first | exact HB.out | apply below_alloc | apply pw_below_drewN | apply below_drew1 | refine below_set ?_ GE153.out | refine below_set ?_ GE158.out) | exact HB.out))); (case side2 => exact HC157_3.out); rintro e w15 ⟨v160, rfl, ho0, hb⟩; refine ⟨_, rfl, ?_⟩; have n0_ := Aside0.mk (Kd.R_elder' (by (with_reducible repeat (first | apply Kd.R_alloc | apply Kd.R_drewN | apply Kd.R_drew)); exact (Kd.R_mono (Kd.R_far (p := ⟨gb158, 5, none⟩) (Kd.R_far (p := ⟨gb158, 4, none⟩) (Kd.R_far (p := ⟨gb158, 3, none⟩) (Kd.R_far (p := ⟨gb158, 2, none⟩) (Kd.R_far (p := ⟨gb158, 1, none⟩) (Kd.R_far (p := ⟨gb158, 0, none⟩) (Kd.R_types HO_3.out BK158.out (by decide)) (fun _ hk => hk.2) (.bool ((rd_T27 l0_2 x10_1).f0))) (fun _ hk => hk.2) (.bool ((rd_T27 l0_2 x10_1).f1))) (fun _ hk => hk.2) (.bool ((rd_T27 l0_2 x10_1).f2))) (fun _ hk => hk.2) (.slice A157_3 ((rd_T27 l0_2 x10_1).f3).length c157_3)) (fun _ hk => hk.2) (.string ((rd_T27 l0_2 x10_1).f4))) (fun _ hk => hk.2) (.int .u64 ((rd_T27 l0_2 x10_1).f5))) (fun _ h_ => h_.1))) (Kd.R_base ho0) hb); have n1_ := Aside0.mk (Kd.R_lower (Kd.R_new' ho0 (Kd.R_lt (by (with_reducible repeat (first | apply Kd.R_alloc | apply Kd.R_drewN | apply Kd.R_drew)); exact (Kd.R_mono (Kd.R_far (p := ⟨gb158, 5, none⟩) (Kd.R_far (p := ⟨gb158, 4, none⟩) (Kd.R_far (p := ⟨gb158, 3, none⟩) (Kd.R_far (p := ⟨gb158, 2, none⟩) (Kd.R_far (p := ⟨gb158, 1, none⟩) (Kd.R_far (p := ⟨gb158, 0, none⟩) (Kd.R_types HO_3.out BK158.out (by decide)) (fun _ hk => hk.2) (.bool ((rd_T27 l0_2 x10_1).f0))) (fun _ hk => hk.2) (.bool ((rd_T27 l0_2 x10_1).f1))) (fun _ hk => hk.2) (.bool ((rd_T27 l0_2 x10_1).f2))) (fun _ hk => hk.2) (.slice A157_3 ((rd_T27 l0_2 x10_1).f3).length c157_3)) (fun _ hk => hk.2) (.string ((rd_T27 l0_2 x10_1).f4))) (fun _ hk => hk.2) (.int .u64 ((rd_T27 l0_2 x10_1).f5))) (fun _ h_ => h_.1))))) (below_size (by repeat (first | (with_reducible first | exact HB.out | apply below_alloc | apply pw_below_drewN | apply below_drew1 | refine below_set ?_ GE153.out | refine below_set ?_ GE158.out) | exact HB.out)))); have n2_ := Aside0.mk (blk_below (g := gb153) (o := .cells #[.bool a0_0, .slice A0_1 l0_1.length c0_1, .slice (some ad157) l0_2.length c0_2] 36 (0, 0)) (by (with_reducible repeat (first | refine blk_drewN ?_ _ | refine blk_drew ?_ | refine blk_alloc ?_ _)); refine blk_far ?_ NB153_158.out _; (with_reducible repeat (first | refine blk_drewN ?_ _ | refine blk_drew ?_ | refine blk_alloc ?_ _)); refine blk_far ?_ NB153_158.out _; (with_reducible repeat (first | refine blk_drewN ?_ _ | refine blk_drew ?_ | refine blk_alloc ?_ _)); refine blk_far ?_ NB153_158.out _; (with_reducible repeat (first | refine blk_drewN ?_ _ | refine blk_drew ?_ | refine blk_alloc ?_ _)); refine blk_far ?_ NB153_158.out _; (with_reducible repeat (first | refine blk_drewN ?_ _ | refine blk_drew ?_ | refine blk_alloc ?_ _)); refine blk_far ?_ NB153_158.out _; (with_reducible repeat (first | refine blk_drewN ?_ _ | refine blk_drew ?_ | refine blk_alloc ?_ _)); refine blk_far ?_ NB153_158.out _; (with_reducible repeat (first | refine blk_drewN ?_ _ | refine blk_drew ?_ | refine blk_alloc ?_ _)); exact BK153.out) hb); have n3_ := Aside0.mk (blk_below (g := gb158) (o := .cells #[.bool ((rd_T27 l0_2 x10_1).f0), .bool ((rd_T27 l0_2 x10_1).f1), .bool ((rd_T27 l0_2 x10_1).f2), .slice A157_3 ((rd_T27 l0_2 x10_1).f3).length c157_3, .string ((rd_T27 l0_2 x10_1).f4), .int .u64 ((rd_T27 l0_2 x10_1).f5)] 27 (0, 0)) (by (with_reducible repeat (first | refine blk_drewN ?_ _ | refine blk_drew ?_ | refine blk_alloc ?_ _)); refine blk_put (cs := #[.bool ((rd_T27 l0_2 x10_1).f0), .bool ((rd_T27 l0_2 x10_1).f1), .bool ((rd_T27 l0_2 x10_1).f2), .slice A157_3 ((rd_T27 l0_2 x10_1).f3).length c157_3, .string ((rd_T27 l0_2 x10_1).f4), .int .u64 0]) ?_ 5 _ rfl; (with_reducible repeat (first | refine blk_drewN ?_ _ | refine blk_drew ?_ | refine blk_alloc ?_ _)); refine blk_put (cs := #[.bool ((rd_T27 l0_2 x10_1).f0), .bool ((rd_T27 l0_2 x10_1).f1), .bool ((rd_T27 l0_2 x10_1).f2), .slice A157_3 ((rd_T27 l0_2 x10_1).f3).length c157_3, .string (⟨#[]⟩ : ByteArray), .int .u64 0]) ?_ 4 _ rfl; (with_reducible repeat (first | refine blk_drewN ?_ _ | refine blk_drew ?_ | refine blk_alloc ?_ _)); refine blk_put (cs := #[.bool ((rd_T27 l0_2 x10_1).f0), .bool ((rd_T27 l0_2 x10_1).f1), .bool ((rd_T27 l0_2 x10_1).f2), .slice none 0 0, .string (⟨#[]⟩ : ByteArray), .int .u64 0]) ?_ 3 _ rfl; (with_reducible repeat (first | refine blk_drewN ?_ _ | refine blk_drew ?_ | refine blk_alloc ?_ _)); refine blk_put (cs := #[.bool ((rd_T27 l0_2 x10_1).f0), .bool ((rd_T27 l0_2 x10_1).f1), .bool false, .slice none 0 0, .string (⟨#[]⟩ : ByteArray), .int .u64 0]) ?_ 2 _ rfl; (with_reducible repeat (first | refine blk_drewN ?_ _ | refine blk_drew ?_ | refine blk_alloc ?_ _)); refine blk_put (cs := #[.bool ((rd_T27 l0_2 x10_1).f0), .bool false, .bool false, .slice none 0 0, .string (⟨#[]⟩ : ByteArray), .int .u64 0]) ?_ 1 _ rfl; (with_reducible repeat (first | refine blk_drewN ?_ _ | refine blk_drew ?_ | refine blk_alloc ?_ _)); refine blk_put (cs := #[.bool false, .bool false, .bool false, .slice none 0 0, .string (⟨#[]⟩ : ByteArray), .int .u64 0]) ?_ 0 _ rfl; (with_reducible repeat (first | refine blk_drewN ?_ _ | refine blk_drew ?_ | refine blk_alloc ?_ _)); exact BK158.out) hb); have n4_ := Aside0.mk (below_step (by repeat (first | (with_reducible first | exact HB.out | apply below_alloc | apply pw_below_drewN | apply below_drew1 | refine below_set ?_ GE153.out | refine below_set ?_ GE158.out) | exact HB.out)) hb); clear HO_3; clear BK153; clear BK158; clear HB; have HO_3 := n0_; have HO161 := n1_; have BK153 := n2_; have BK158 := n3_; have HB := n4_; clear n0_ n1_ n2_ n3_ n4_; (try clear hb); (try clear hb2); (try clear hk); (try clear hi); (try clear ho0); obtain ⟨Ao16, co16, eo16⟩ := Kd.R_slice HO161.out; subst eo16) | ((with_reducible refine gate_callee (f := 57) rfl ?_); refine goesL_ (some 17) rfl rfl Tryd.func57 (by kernel_rfl) rfl #[.int .u8 2, .slice Ao16 t159.length co16] rfl (by (try simp only [List.map_toArray, List.map_cons, List.map_nil]); first | done | rfl | (simp only [List.length_drop, List.length_take]; rfl)) ?_; (with_reducible refine (spec_pbField.calls k1 2 _ _ t159 t162 _ ?side1 ?side2 A10.out).mono ?_); (case side1 => repeat (first | exact (Kd.R_reads' HO161.out).2.2 | (with_reducible refine Kd.C_alloc ?_ _) | (with_reducible refine Kd.C_drewN ?_ _) | (with_reducible refine Kd.C_drew ?_))); (case side2 => exact (Kd.R_reads' HO161.out).2.1); rintro e w17 ⟨v163, rfl, ho0, hb⟩; refine ⟨_, rfl, ?_⟩; have n0_ := Aside0.mk (Kd.R_elder' (by (with_reducible repeat (first | apply Kd.R_alloc | apply Kd.R_drewN | apply Kd.R_drew)); exact HO_3.out) (Kd.R_base ho0) hb); have n1_ := Aside0.mk (Kd.R_elder' (by (with_reducible repeat (first | apply Kd.R_alloc | apply Kd.R_drewN | apply Kd.R_drew)); exact HO161.out) (Kd.R_base ho0) hb); have n2_ := Aside0.mk (Kd.R_lower (Kd.R_new' (Kd.R_new' ho0 (Kd.R_lt (by (with_reducible repeat (first | apply Kd.R_alloc | apply Kd.R_drewN | apply Kd.R_drew)); exact HO_3.out))) (Kd.R_lt (by (with_reducible repeat (first | apply Kd.R_alloc | apply Kd.R_drewN | apply Kd.R_drew)); exact HO161.out))) (below_size (by repeat (first | (with_reducible first | exact HB.out | apply below_alloc | apply pw_below_drewN | apply below_drew1 | refine below_set ?_ GE153.out | refine below_set ?_ GE158.out) | exact HB.out)))); have n3_ := Aside0.mk (blk_below (g := gb153) (o := .cells #[.bool a0_0, .slice A0_1 l0_1.length c0_1, .slice (some ad157) l0_2.length c0_2] 36 (0, 0)) (by (with_reducible repeat (first | refine blk_drewN ?_ _ | refine blk_drew ?_ | refine blk_alloc ?_ _)); exact BK153.out) hb); have n4_ := Aside0.mk (blk_below (g := gb158) (o := .cells #[.bool ((rd_T27 l0_2 x10_1).f0), .bool ((rd_T27 l0_2 x10_1).f1), .bool ((rd_T27 l0_2 x10_1).f2), .slice A157_3 ((rd_T27 l0_2 x10_1).f3).length c157_3, .string ((rd_T27 l0_2 x10_1).f4), .int .u64 ((rd_T27 l0_2 x10_1).f5)] 27 (0, 0)) (by (with_reducible repeat (first | refine blk_drewN ?_ _ | refine blk_drew ?_ | refine blk_alloc ?_ _)); exact BK158.out) hb); have n5_ := Aside0.mk (below_step (by repeat (first | (with_reducible first | exact HB.out | apply below_alloc | apply pw_below_drewN | apply below_drew1 | refine below_set ?_ GE153.out | refine below_set ?_ GE158.out) | exact HB.out)) hb); clear HO_3; clear HO161; clear BK153; clear BK158; clear HB; have HO_3 := n0_; have HO161 := n1_; have HO164 := n2_; have BK153 := n3_; have BK158 := n4_; have HB := n5_; clear n0_ n1_ n2_ n3_ n4_ n5_; (try clear hb); (try clear hb2); (try clear hk); (try clear hi); (try clear ho0); obtain ⟨Ao19, co19, eo19⟩ := Kd.R_slice HO164.out; subst eo19) | ((with_reducible refine gate_builtin (b := .append) (xs := #[.tmp 14, .tmp 17]) rfl ?_); at_builtin; refine Kd.R_append_rows (Kd.int .u8) (w0 := w) w.heap.size rfl (.tmp 14) (.tmp 17) 22 5 (.int .u8 0) 1 rfl Tryd.underlying22 info5 rfl (by decide) (by omega) u3 x3_1 t162 _ _ _ (fun k_ => some k_ ≠ (.slice Ao16 t159.length co16 : Value).ownBlock ∧ some k_ ≠ (.slice Ao19 t162.length co19 : Value).ownBlock) (fun _ => False) rfl rfl ?aO ?aR (fun _ _ h => h) (fun _ h => h.elim) ?aF ?aB ?aS ?aL ?_; (case aR => repeat (first | exact (Kd.R_reads' HO164.out).2.2 | (with_reducible refine Kd.C_alloc ?_ _) | (with_reducible refine Kd.C_drewN ?_ _) | (with_reducible refine Kd.C_drew ?_))); (case aB => exact (by repeat (first | (with_reducible first | exact HB.out | apply below_alloc | apply pw_below_drewN | apply below_drew1 | refine below_set ?_ GE153.out | refine below_set ?_ GE158.out) | exact HB.out))); (case aF => exact (fun k_ hk => ⟨Kd.fresh' (Kd.R_lt (by (with_reducible repeat (first | apply Kd.R_alloc | apply Kd.R_drewN | apply Kd.R_drew)); exact HO161.out)) k_ hk, Kd.fresh' (Kd.R_lt (by (with_reducible repeat (first | apply Kd.R_alloc | apply Kd.R_drewN | apply Kd.R_drew)); exact HO164.out)) k_ hk⟩)); (case aO => exact (by (with_reducible repeat (first | apply Kd.R_alloc | apply Kd.R_drewN | apply Kd.R_drew)); exact Kd.R_mono HO_3.out (fun _ hk => ⟨hk.1.2, hk.2⟩))); (case aS => exact (below_size (by repeat (first | (with_reducible first | exact HB.out | apply below_alloc | apply pw_below_drewN | apply below_drew1 | refine below_set ?_ GE153.out | refine below_set ?_ GE158.out) | exact HB.out)))); (case aL => have := LMc11.out; omega); intro v166 w18 ho hb hg hat; rw [← Ny165.out] at ho; have n0_ := Aside0.mk (blk_grown (g := gb153) (o := .cells #[.bool a0_0, .slice A0_1 l0_1.length c0_1, .slice (some ad157) l0_2.length c0_2] 36 (0, 0)) (by (with_reducible repeat (first | refine blk_drewN ?_ _ | refine blk_drew ?_ | refine blk_alloc ?_ _)); exact BK153.out) hg (Kd.R_ne HO_3.out BK153.out (by decide))); have n1_ := Aside0.mk (blk_grown (g := gb158) (o := .cells #[.bool ((rd_T27 l0_2 x10_1).f0), .bool ((rd_T27 l0_2 x10_1).f1), .bool ((rd_T27 l0_2 x10_1).f2), .slice A157_3 ((rd_T27 l0_2 x10_1).f3).length c157_3, .string ((rd_T27 l0_2 x10_1).f4), .int .u64 ((rd_T27 l0_2 x10_1).f5)] 27 (0, 0)) (by (with_reducible repeat (first | refine blk_drewN ?_ _ | refine blk_drew ?_ | refine blk_alloc ?_ _)); exact BK158.out) hg (Kd.R_ne HO_3.out BK158.out (by decide))); have n2_ := Aside0.mk (Kd.R_after (ok := (fun k_ => some k_ ≠ (.slice Ao19 t162.length co19 : Value).ownBlock)) (by (with_reducible repeat (first | apply Kd.R_alloc | apply Kd.R_drewN | apply Kd.R_drew)); exact Kd.R_mono HO161.out (fun _ hk => ⟨hk.2, hk.1.2⟩)) hg hat); have n3_ := Aside0.mk (Kd.R_after (ok := (fun k_ => some k_ ≠ (.slice Ao16 t159.length co16 : Value).ownBlock)) (by (with_reducible repeat (first | apply Kd.R_alloc | apply Kd.R_drewN | apply Kd.R_drew)); exact Kd.R_mono HO164.out (fun _ hk => ⟨hk.2, hk.1.2⟩)) hg hat); have n4_ := Aside0.mk (hb); have n5_ := Aside0.mk (ho); clear BK153; clear BK158; clear HO161; clear HO164; clear HB; clear HO_3; have BK153 := n0_; have BK158 := n1_; have HO161 := n2_; have HO164 := n3_; have HB := n4_; have HO167 := n5_; clear n0_ n1_ n2_ n3_ n4_ n5_; clear ho hb hg hat))
       go_roundg k1
       case measure => have := HK1.out; omega
       case rel => exact ⟨(y165), (wrap64 (x10_1 + 1)), (by first | rfl | (simp; done) | (simp [*]; done)), H', ⟨by have := HK1.out; omega⟩, ⟨by (with_reducible repeat (first | apply Kd.R_alloc | apply Kd.R_drewN | apply Kd.R_drew)); exact Kd.R_mono HO167.out (fun _ hk => trivial)⟩, ⟨by (with_reducible repeat (first | refine blk_drewN ?_ _ | refine blk_drew ?_ | refine blk_alloc ?_ _)); exact BK153.out⟩, ⟨by repeat (first | (with_reducible first | exact HB.out | apply below_alloc | apply pw_below_drewN | apply below_drew1 | refine below_set ?_ GE153.out | refine below_set ?_ GE158.out) | exact HB.out)⟩⟩
      ·rw [if_neg c11] at H
       exact absurd H (by simp)
     ·rw [if_neg c8] at H
      exact absurd H (by simp)
    ·rw [if_neg c7] at H
     exact absurd H (by simp)
   ·rw [if_neg c6] at H
    have c6b0 : decide (x10_1 < (l0_2.length : Int)) = false := decide_eq_false c6
    clear c6
    by_cases c20 : a0_0 = true
    ·subst c20
     have H1 : ((spec_pbField.f k1 1 l0_1).bind fun t168 => (if x3_1.length + t168.length < 140737488355328 then (some (x3_1 ++ t168)) else (none))) = some r := by rw [if_pos rfl] at H; exact H
     clear H
     have H := H1
     clear H1
     replace H := Option.bind_eq_some_iff.mp H
     obtain ⟨t168, A210, H⟩ := H
     replace H : (if x3_1.length + t168.length < 140737488355328 then (some (x3_1 ++ t168)) else (none)) = some r := H
     have A21 := Aside0.mk A210
     clear A210
     by_cases c22 : x3_1.length + t168.length < 140737488355328
     ·rw [if_pos c22] at H
      have LMc22 := Aside0.mk c22
      clear c22
      obtain ⟨y171, hy171⟩ : ∃ y_ : List Int, y_ = (x3_1 ++ t168) := ⟨_, rfl⟩
      replace H : (some y171) = some r := by first | (rw [hy171]; with_reducible exact H) | (have H2_ := (Option.bind_some _ _).symm.trans H; rw [hy171]; with_reducible exact H2_) | (have H2_ := (Option.bind_some _ _).symm.trans H; with_reducible exact H2_) | with_reducible exact H | (rw [hy171]; exact H) | exact H
      have Ny171 := Aside0.mk hy171
      clear hy171
      obtain rfl := Option.some.inj H
      have hcz23_0 : wr.cell? ⟨gb153, 0, none⟩ = some (.bool true) := (blk_cell BK153.out 0).trans rfl
      have hcz23_1 : wr.cell? ⟨gb153, 1, none⟩ = some (.slice A0_1 l0_1.length c0_1) := (blk_cell BK153.out 1).trans rfl
      have hcz23_2 : wr.cell? ⟨gb153, 2, none⟩ = some (.slice A0_2 l0_2.length c0_2) := (blk_cell BK153.out 2).trans rfl
      have hfz23_0 := blk_frozen BK153.out 0
      have hfz23_1 := blk_frozen BK153.out 1
      have hfz23_2 := blk_frozen BK153.out 2
      go_wp2_with (first | ((with_reducible refine gate_callee (f := 57) rfl ?_); refine goesL_ (some 25) rfl rfl Tryd.func57 (by kernel_rfl) rfl #[.int .u8 1, .slice A0_1 l0_1.length c0_1] rfl (by (try simp only [List.map_toArray, List.map_cons, List.map_nil]); first | done | rfl | (simp only [List.length_drop, List.length_take]; rfl)) ?_; (with_reducible refine (spec_pbField.calls k1 1 _ _ l0_1 t168 _ ?side1 ?side2 A21.out).mono ?_); (case side1 => repeat (first | exact (Kd.C_below HR0_1.out HB.out) | (with_reducible refine Kd.C_alloc ?_ _) | (with_reducible refine Kd.C_drewN ?_ _) | (with_reducible refine Kd.C_drew ?_))); (case side2 => exact HC0_1.out); rintro e w24 ⟨v169, rfl, ho0, hb⟩; refine ⟨_, rfl, ?_⟩; have n0_ := Aside0.mk (Kd.R_elder' (by (with_reducible repeat (first | apply Kd.R_alloc | apply Kd.R_drewN | apply Kd.R_drew)); exact HO_3.out) (Kd.R_base ho0) hb); have n1_ := Aside0.mk (Kd.R_lower (Kd.R_new' ho0 (Kd.R_lt (by (with_reducible repeat (first | apply Kd.R_alloc | apply Kd.R_drewN | apply Kd.R_drew)); exact HO_3.out))) (below_size (by repeat (first | (with_reducible first | exact HB.out | apply below_alloc | apply pw_below_drewN | apply below_drew1 | refine below_set ?_ GE153.out) | exact HB.out)))); have n2_ := Aside0.mk (blk_below (g := gb153) (o := .cells #[.bool true, .slice A0_1 l0_1.length c0_1, .slice A0_2 l0_2.length c0_2] 36 (0, 0)) (by (with_reducible repeat (first | refine blk_drewN ?_ _ | refine blk_drew ?_ | refine blk_alloc ?_ _)); exact BK153.out) hb); have n3_ := Aside0.mk (below_step (by repeat (first | (with_reducible first | exact HB.out | apply below_alloc | apply pw_below_drewN | apply below_drew1 | refine below_set ?_ GE153.out) | exact HB.out)) hb); clear HO_3; clear BK153; clear HB; have HO_3 := n0_; have HO170 := n1_; have BK153 := n2_; have HB := n3_; clear n0_ n1_ n2_ n3_; (try clear hb); (try clear hb2); (try clear hk); (try clear hi); (try clear ho0); obtain ⟨Ao26, co26, eo26⟩ := Kd.R_slice HO170.out; subst eo26) | ((with_reducible refine gate_builtin (b := .append) (xs := #[.tmp 22, .tmp 25]) rfl ?_); at_builtin; refine Kd.R_append_rows (Kd.int .u8) (w0 := w) w.heap.size rfl (.tmp 22) (.tmp 25) 22 5 (.int .u8 0) 1 rfl Tryd.underlying22 info5 rfl (by decide) (by omega) u3 x3_1 t168 _ _ _ (fun k_ => some k_ ≠ (.slice Ao26 t168.length co26 : Value).ownBlock) (fun _ => False) rfl rfl ?aO ?aR (fun _ _ h => h) (fun _ h => h.elim) ?aF ?aB ?aS ?aL ?_; (case aR => repeat (first | exact (Kd.R_reads' HO170.out).2.2 | (with_reducible refine Kd.C_alloc ?_ _) | (with_reducible refine Kd.C_drewN ?_ _) | (with_reducible refine Kd.C_drew ?_))); (case aB => exact (by repeat (first | (with_reducible first | exact HB.out | apply below_alloc | apply pw_below_drewN | apply below_drew1 | refine below_set ?_ GE153.out) | exact HB.out))); (case aF => exact (fun k_ hk => Kd.fresh' (Kd.R_lt (by (with_reducible repeat (first | apply Kd.R_alloc | apply Kd.R_drewN | apply Kd.R_drew)); exact HO170.out)) k_ hk)); (case aO => exact (by (with_reducible repeat (first | apply Kd.R_alloc | apply Kd.R_drewN | apply Kd.R_drew)); exact Kd.R_mono HO_3.out (fun _ hk => hk.2))); (case aS => exact (below_size (by repeat (first | (with_reducible first | exact HB.out | apply below_alloc | apply pw_below_drewN | apply below_drew1 | refine below_set ?_ GE153.out) | exact HB.out)))); (case aL => have := LMc22.out; omega); intro v172 w25 ho hb hg hat; rw [← Ny171.out] at ho; have n0_ := Aside0.mk (blk_grown (g := gb153) (o := .cells #[.bool true, .slice A0_1 l0_1.length c0_1, .slice A0_2 l0_2.length c0_2] 36 (0, 0)) (by (with_reducible repeat (first | refine blk_drewN ?_ _ | refine blk_drew ?_ | refine blk_alloc ?_ _)); exact BK153.out) hg (Kd.R_ne HO_3.out BK153.out (by decide))); have n1_ := Aside0.mk (Kd.R_after (ok := (fun _ => True)) (by (with_reducible repeat (first | apply Kd.R_alloc | apply Kd.R_drewN | apply Kd.R_drew)); exact HO170.out) hg hat); have n2_ := Aside0.mk (hb); have n3_ := Aside0.mk (ho); clear BK153; clear HO170; clear HB; clear HO_3; have BK153 := n0_; have HO170 := n1_; have HB := n2_; have HO173 := n3_; clear n0_ n1_ n2_ n3_; clear ho hb hg hat))
      go_ret
      exact ⟨_, by first | rfl | (simp [errV_none, errV_some] <;> rfl) | (simp [*, errV_none, errV_some] <;> rfl), by (with_reducible repeat (first | apply Kd.R_alloc | apply Kd.R_drewN | apply Kd.R_drew)); exact Kd.R_mono HO173.out (fun _ hk => trivial), by repeat (first | (with_reducible first | exact HB.out | apply below_alloc | apply pw_below_drewN | apply below_drew1 | refine below_set ?_ GE153.out) | exact HB.out)⟩
     ·rw [if_neg c22] at H
      exact absurd H (by simp)
    ·replace c20 := Bool.eq_false_iff.mpr c20
     subst c20
     have H1 : (some x3_1) = some r := by rw [if_neg (show ¬ (false = true) by decide)] at H; exact H
     clear H
     have H := H1
     clear H1
     obtain rfl := Option.some.inj H
     have hcz27_0 : wr.cell? ⟨gb153, 0, none⟩ = some (.bool false) := (blk_cell BK153.out 0).trans rfl
     have hcz27_1 : wr.cell? ⟨gb153, 1, none⟩ = some (.slice A0_1 l0_1.length c0_1) := (blk_cell BK153.out 1).trans rfl
     have hcz27_2 : wr.cell? ⟨gb153, 2, none⟩ = some (.slice A0_2 l0_2.length c0_2) := (blk_cell BK153.out 2).trans rfl
     have hfz27_0 := blk_frozen BK153.out 0
     have hfz27_1 := blk_frozen BK153.out 1
     have hfz27_2 := blk_frozen BK153.out 2
     go_wp2
     go_ret
     exact ⟨_, by first | rfl | (simp [errV_none, errV_some] <;> rfl) | (simp [*, errV_none, errV_some] <;> rfl), by (with_reducible repeat (first | apply Kd.R_alloc | apply Kd.R_drewN | apply Kd.R_drew)); exact HO_3.out, by repeat (first | (with_reducible first | exact HB.out | apply below_alloc | apply pw_below_drewN | apply below_drew1 | refine below_set ?_ GE153.out) | exact HB.out)⟩

/-! ### spec_PbPlain: function 53, by hand -/
-- HAND pub-tholos/spec.PbPlain
-- making: yes
-- share: 0.3
-- rsh: 3
/-- A link without what does not count. -/
def spec_PbPlain.f (a0_0 : Bool) (a0_1 : Bool) (a0_2 : Bool) (l0_3 : List Int) (a0_4 : ByteArray) (a0_5 : Int) : Option (Bool × Bool × Bool × List Int × ByteArray × Int) := some (a0_0, a0_1, a0_2, if a0_0 = true then l0_3 else [], if a0_1 = true then a0_4 else ⟨#[]⟩, if a0_2 = true then a0_5 else 0)
theorem spec_PbPlain.calls (a0_0 : Bool) (a0_1 : Bool) (a0_2 : Bool) (P0_3_ : Nat → Prop) (A0_3 : Option Addr) (c0_3 : Nat) (l0_3 : List Int) (a0_4 : ByteArray) (a0_5 : Int) (r1 : Bool) (r2 : Bool) (r3 : Bool) (r4 : List Int) (r5 : ByteArray) (r6 : Int) (w : World) (hs0_3 : Kd.V (Kd.int .u8) 5 w w.heap.size (fun k_ => P0_3_ k_) (.slice A0_3 l0_3.length c0_3) l0_3) (h : spec_PbPlain.f a0_0 a0_1 a0_2 l0_3 a0_4 a0_5 = some (r1, r2, r3, r4, r5, r6)) :
  Calls Tryd.prog 53 #[.agg #[.bool a0_0, .bool a0_1, .bool a0_2, .slice A0_3 l0_3.length c0_3, .string a0_4, .int .u64 a0_5]] w fun e w' => ∃ v3_ : Value, e = .returned (.agg #[.bool r1, .bool r2, .bool r3, v3_, .string r5, .int .u64 r6]) ∧ Kd.V (Kd.int .u8) 5 w' w.heap.size (fun k_ => (P0_3_ k_ ∨ w.heap.size ≤ k_)) v3_ r4 ∧ Below w.heap.size w w' := by
 have h' := Option.some.inj h
 clear h
 simp only [Prod.mk.injEq] at h'
 obtain ⟨rfl, rfl, rfl, rfl, rfl, rfl⟩ := h'
 refine (Go.Proofs.YtnhnlodmkbiiiaaDoor.HandFields.PbPlain_walk w a0_0 a0_1 a0_2 (.slice A0_3 l0_3.length c0_3) a0_4 a0_5 ⟨_, _, _, rfl⟩).mono ?_
 rintro e w' ⟨rfl, hB⟩
 refine ⟨_, rfl, ?_, hB⟩
 cases a0_0
 ·exact Kd.V_nil _ _ _ _ _
 ·exact Kd.V_mono (Kd.V_below hs0_3 hB) (fun _ hk => .inl hk)

end Go.Proofs.YtnhnlodmkbiiiaaDoor.PPbJoin
