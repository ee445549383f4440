/- Printed by a program of this session (it drives the print of the kit, with contracts proved by hand beside): the Go functions of one law as Lean functions, and that the Go code comes to what they say. -/
import Derived.Test.YtnhnlodmkbiiiaaDoorQPPbJoinx0
import Derived.Test.YtnhnlodmkbiiiaaDoorQPPbJoinx1
import Derived.Test.YtnhnlodmkbiiiaaDoorQPPbJoinx8
namespace Go.Proofs.YtnhnlodmkbiiiaaDoor.PPbJoin
open Go.RowKit Go.Proofs.YtnhnlodmkbiiiaaDoorL Go.Proofs.YtnhnlodmkbiiiaaDoorW.PrintWords Go.Proofs.YtnhnlodmkbiiiaaDoorW.PrintLast Go.Proofs.YtnhnlodmkbiiiaaDoorW.PrintMore
attribute [local go_sem] max2_int min2_int max_two min_two max_three min_three max_four min_four   -- for this text's walks alone
set_option linter.unusedVariables false
set_option linter.unusedSimpArgs false

/-! ### spec_PbSame: function 24 -/
mutual
def spec_PbSame.j0 : Nat → Bool → Bool → List Int → List (S27) → Bool → List Int → List (S27) → Option (Bool)
 | 0, _, _, _, _, _, _, _ => none
 | k + 1, x31, x194000, x194001, x194002, x195000, x195001, x195002 => if x31 = true then (some false) else (spec_PbSame.l0 k (x194002.length : Int) 0 x194000 x194001 x194002 x195000 x195001 x195002)
def spec_PbSame.l0 : Nat → Int → Int → Bool → List Int → List (S27) → Bool → List Int → List (S27) → Option (Bool)
 | 0, _, _, _, _, _, _, _, _ => none
 | k + 1, x34, x35, x194000, x194001, x194002, x195000, x195001, x195002 => if x35 < x34 then (if 0 ≤ x35 then (if x35 < (x194002.length : Int) then (if x35 < (x195002.length : Int) then ((spec_PbSameLink.f ((rd_T27 x194002 x35).f0) ((rd_T27 x194002 x35).f1) ((rd_T27 x194002 x35).f2) ((rd_T27 x194002 x35).f3) ((rd_T27 x194002 x35).f4) ((rd_T27 x194002 x35).f5) ((rd_T27 x195002 x35).f0) ((rd_T27 x195002 x35).f1) ((rd_T27 x195002 x35).f2) ((rd_T27 x195002 x35).f3) ((rd_T27 x195002 x35).f4) ((rd_T27 x195002 x35).f5)).bind fun t198 => (if t198 = true then (spec_PbSame.l0 k x34 (wrap64 (x35 + 1)) x194000 x194001 x194002 x195000 x195001 x195002) else (some false))) else (none)) else (none)) else (none)) else (some true)
end
def spec_PbSame.f (k : Nat) (a0_0 : Bool) (l0_1 : List Int) (l0_2 : List (S27)) (a1_0 : Bool) (l1_1 : List Int) (l1_2 : List (S27)) : Option (Bool) := if (a0_0 != a1_0) = true then (spec_PbSame.j0 k true a0_0 l0_1 l0_2 a1_0 l1_1 l1_2) else (if a0_0 = true then ((spec_SameBytes.f l0_1 l1_1).bind fun t195 => (if t195 = true then (spec_PbSame.j0 k ((l0_2.length : Int) != (l1_2.length : Int)) a0_0 l0_1 l0_2 a1_0 l1_1 l1_2) else (spec_PbSame.j0 k true a0_0 l0_1 l0_2 a1_0 l1_1 l1_2))) else (spec_PbSame.j0 k ((l0_2.length : Int) != (l1_2.length : Int)) a0_0 l0_1 l0_2 a1_0 l1_1 l1_2))
def spec_PbSame.T6 : Bool × List (List Nat × List Nat) := (true, [([], []), ([0], [0]), ([], []), ([1, 2], [1, 2]), ([3], [3]), ([], []), ([5], [5]), ([], []), ([6, 7], [6, 7]), ([8], [8]), ([4, 9], [4, 9]), ([10], [10])])
def spec_PbSame.B6 : List Nat := [0, 1, 0, 7, 15, 0, 32, 0, 224, 480, 1023, 2047]
theorem spec_PbSame.tab6 : rtab .any (opsOf Tryd.f24 6) = spec_PbSame.T6 := by kernel_rfl
theorem spec_PbSame.bits6 : waitsOk spec_PbSame.T6.2 spec_PbSame.B6 = true := by kernel_rfl
set_option maxHeartbeats 8000000 in
set_option maxRecDepth 100000 in
theorem spec_PbSame.calls (k : Nat) (a0_0 : Bool) (A0_1 : Option Addr) (c0_1 : Nat) (l0_1 : List Int) (A0_2 : Option Addr) (c0_2 : Nat) (l0_2 : List (S27)) (a1_0 : Bool) (A1_1 : Option Addr) (c1_1 : Nat) (l1_1 : List Int) (A1_2 : Option Addr) (c1_2 : Nat) (l1_2 : List (S27)) (r : Bool) (w : World) (hr0_1 : Kd.C (Kd.int .u8) w A0_1 l0_1.length l0_1) (hc0_1 : l0_1.length ≤ c0_1) (hr0_2 : Kd.C k27 w A0_2 l0_2.length l0_2) (hc0_2 : l0_2.length ≤ c0_2) (hr1_1 : Kd.C (Kd.int .u8) w A1_1 l1_1.length l1_1) (hc1_1 : l1_1.length ≤ c1_1) (hr1_2 : Kd.C k27 w A1_2 l1_2.length l1_2) (hc1_2 : l1_2.length ≤ c1_2) (h : spec_PbSame.f k a0_0 l0_1 l0_2 a1_0 l1_1 l1_2 = some r) :
  Calls Tryd.prog 24 #[.agg #[.bool a0_0, .slice A0_1 l0_1.length c0_1, .slice A0_2 l0_2.length c0_2], .agg #[.bool a1_0, .slice A1_1 l1_1.length c1_1, .slice A1_2 l1_2.length c1_2]] w fun e w' => e = .returned (.bool r) ∧ Below w.heap.size w w' := by
 have hu36 := Tryd.underlying36
 have hu27 := Tryd.underlying27
 have HR0_1 := Aside0.mk hr0_1
 have HC0_1 := Aside0.mk hc0_1
 clear hr0_1 hc0_1
 have HR0_2 := Aside0.mk hr0_2
 have HC0_2 := Aside0.mk hc0_2
 clear hr0_2 hc0_2
 have HR1_1 := Aside0.mk hr1_1
 have HC1_1 := Aside0.mk hc1_1
 clear hr1_1 hc1_1
 have HR1_2 := Aside0.mk hr1_2
 have HC1_2 := Aside0.mk hc1_2
 clear hr1_2 hc1_2
 have HB := Aside0.mk (Below.refl w.heap.size w)
 have H : (if (a0_0 != a1_0) = true then (spec_PbSame.j0 k true a0_0 l0_1 l0_2 a1_0 l1_1 l1_2) else (if a0_0 = true then ((spec_SameBytes.f l0_1 l1_1).bind fun t195 => (if t195 = true then (spec_PbSame.j0 k ((l0_2.length : Int) != (l1_2.length : Int)) a0_0 l0_1 l0_2 a1_0 l1_1 l1_2) else (spec_PbSame.j0 k true a0_0 l0_1 l0_2 a1_0 l1_1 l1_2))) else (spec_PbSame.j0 k ((l0_2.length : Int) != (l1_2.length : Int)) a0_0 l0_1 l0_2 a1_0 l1_1 l1_2))) = some r := h
 clear h
 have HC3 := Aside0.mk H
 clear H
 go_enter Tryd.func24, Tryd.ntmps24
 go_upto_region 1 with (first | ((with_reducible refine gate_dst (N := 2) rfl ?_); refine box_event ?hg (N := 2) ?hd (cs := #[.bool a0_0, .slice A0_1 l0_1.length c0_1, .slice A0_2 l0_2.length c0_2]) (t := 36) ?hr ?_; (case hd => rfl); (case hg => rfl); (case hr => first | (go_simp; done) | (go_simp; rfl)); intro gb193 hg w4 hbox hb; have n0_ := Aside0.mk (below_step (by repeat (first | (with_reducible first | exact HB.out | apply below_alloc | apply pw_below_drewN | apply below_drew1) | exact HB.out)) hb); have n1_ := Aside0.mk (hbox); have n2_ := Aside0.mk ((by rw [hg]; exact (below_size (by repeat (first | (with_reducible first | exact HB.out | apply below_alloc | apply pw_below_drewN | apply below_drew1) | exact HB.out))) : w.heap.size ≤ gb193)); have n3_ := Aside0.mk ((by rw [hg]; exact (below_size (by repeat (first | (with_reducible first | exact HB.out | apply below_alloc | apply pw_below_drewN | apply below_drew1) | exact HB.out))) : w.heap.size ≤ gb193)); clear HB; have HB := n0_; have BK193 := n1_; have GW193 := n2_; have GE193 := n3_; clear n0_ n1_ n2_ n3_; clear hb hbox hg) | ((with_reducible refine gate_dst (N := 3) rfl ?_); refine box_event ?hg (N := 3) ?hd (cs := #[.bool a1_0, .slice A1_1 l1_1.length c1_1, .slice A1_2 l1_2.length c1_2]) (t := 36) ?hr ?_; (case hd => rfl); (case hg => rfl); (case hr => first | (go_simp; done) | (go_simp; rfl)); intro gb194 hg w5 hbox hb; have n0_ := Aside0.mk (blk_below (g := gb193) (o := .cells #[.bool a0_0, .slice A0_1 l0_1.length c0_1, .slice A0_2 l0_2.length c0_2] 36 (0, 0)) (by (with_reducible repeat (first | refine blk_drewN ?_ _ | refine blk_drew ?_ | refine blk_alloc ?_ _)); exact BK193.out) hb); have n1_ := Aside0.mk (below_step (by repeat (first | (with_reducible first | exact HB.out | apply below_alloc | apply pw_below_drewN | apply below_drew1 | refine below_set ?_ GE193.out) | exact HB.out)) hb); have n2_ := Aside0.mk (hbox); have n3_ := Aside0.mk ((by rw [hg]; exact (below_size (by repeat (first | (with_reducible first | exact HB.out | apply below_alloc | apply pw_below_drewN | apply below_drew1 | refine below_set ?_ GE193.out) | exact HB.out))) : w.heap.size ≤ gb194)); have n4_ := Aside0.mk ((by rw [hg]; exact (below_size (by repeat (first | (with_reducible first | exact HB.out | apply below_alloc | apply pw_below_drewN | apply below_drew1 | refine below_set ?_ GE193.out) | exact HB.out))) : w.heap.size ≤ gb194)); have n5_ := Aside0.mk ((by rw [hg]; exact Nat.ne_of_lt (blk_lt (g := gb193) (o := .cells #[.bool a0_0, .slice A0_1 l0_1.length c0_1, .slice A0_2 l0_2.length c0_2] 36 (0, 0)) (by (with_reducible repeat (first | refine blk_drewN ?_ _ | refine blk_drew ?_ | refine blk_alloc ?_ _)); exact BK193.out)) : gb193 ≠ gb194)); have n6_ := Aside0.mk ((by rw [hg]; exact Nat.ne_of_gt (blk_lt (g := gb193) (o := .cells #[.bool a0_0, .slice A0_1 l0_1.length c0_1, .slice A0_2 l0_2.length c0_2] 36 (0, 0)) (by (with_reducible repeat (first | refine blk_drewN ?_ _ | refine blk_drew ?_ | refine blk_alloc ?_ _)); exact BK193.out)) : gb194 ≠ gb193)); clear BK193; clear HB; have BK193 := n0_; have HB := n1_; have BK194 := n2_; have GW194 := n3_; have GE194 := n4_; have NB193_194 := n5_; have NB194_193 := n6_; clear n0_ n1_ n2_ n3_ n4_ n5_ n6_; clear hb hbox hg))
 (try simp only [Act.put, List.setIfInBounds_toArray, List.set_cons_zero, List.set_cons_succ])
 go_cut [31] (fun v31 wc => ∃ (kq : Nat) (x31_2 : Bool), v31 = .bool x31_2 ∧ Aside0 (spec_PbSame.j0 kq x31_2 a0_0 l0_1 l0_2 a1_0 l1_1 l1_2 = some r) ∧ Aside0 (kq ≤ k) ∧ Aside0 (wc.heap[gb193]? = some (.cells #[.bool a0_0, (.slice A0_1 l0_1.length c0_1), (.slice A0_2 l0_2.length c0_2)] 36 (0, 0))) ∧ Aside0 (wc.heap[gb194]? = some (.cells #[.bool a1_0, (.slice A1_1 l1_1.length c1_1), (.slice A1_2 l1_2.length c1_2)] 36 (0, 0))) ∧ Aside0 (Below w.heap.size w wc))
 case first =>
  have H := HC3.out
  clear HC3
  by_cases c6 : (a0_0 != a1_0) = true
  ·rw [if_pos c6] at H
   have c6b0 : (a0_0 != a1_0) = true := c6
   (try (have c6b1 : decide (a0_0 = a1_0) = false := by simpa using c6))
   (try (have c6b2 : (a0_0 == a1_0) = false := by simpa using c6))
   (try (have c6b3 : ¬ (a0_0 = a1_0) := by simpa using c6))
   clear c6
   (first | rw [c6b0] | (simp only [i64_w, i32_w]; rw [c6b0]) | skip)
   have H' := Aside0.mk H
   clear H
   have hnb7 := NB193_194.out
   have hnc7 := NB194_193.out
   have hcz8_0 : w5.cell? ⟨gb193, 0, none⟩ = some (.bool a0_0) := (blk_cell BK193.out 0).trans rfl
   have hcz8_1 : w5.cell? ⟨gb193, 1, none⟩ = some (.slice A0_1 l0_1.length c0_1) := (blk_cell BK193.out 1).trans rfl
   have hcz8_2 : w5.cell? ⟨gb193, 2, none⟩ = some (.slice A0_2 l0_2.length c0_2) := (blk_cell BK193.out 2).trans rfl
   have hfz8_0 := blk_frozen BK193.out 0
   have hfz8_1 := blk_frozen BK193.out 1
   have hfz8_2 := blk_frozen BK193.out 2
   have hcz9_0 : w5.cell? ⟨gb194, 0, none⟩ = some (.bool a1_0) := (blk_cell BK194.out 0).trans rfl
   have hcz9_1 : w5.cell? ⟨gb194, 1, none⟩ = some (.slice A1_1 l1_1.length c1_1) := (blk_cell BK194.out 1).trans rfl
   have hcz9_2 : w5.cell? ⟨gb194, 2, none⟩ = some (.slice A1_2 l1_2.length c1_2) := (blk_cell BK194.out 2).trans rfl
   have hfz9_0 := blk_frozen BK194.out 0
   have hfz9_1 := blk_frozen BK194.out 1
   have hfz9_2 := blk_frozen BK194.out 2
   go_wp2
   go_meet
   case rel => exact ⟨_, (true), (by first | rfl | (simp; done) | (simp [*]; done)), H', ⟨by first | omega | exact Nat.le_refl _⟩, ⟨by (with_reducible repeat (first | refine blk_drewN ?_ _ | refine blk_drew ?_ | refine blk_alloc ?_ _)); exact BK193.out⟩, ⟨by (with_reducible repeat (first | refine blk_drewN ?_ _ | refine blk_drew ?_ | refine blk_alloc ?_ _)); exact BK194.out⟩, ⟨by repeat (first | (with_reducible first | exact HB.out | apply below_alloc | apply pw_below_drewN | apply below_drew1 | refine below_set ?_ GE193.out | refine below_set ?_ GE194.out) | exact HB.out)⟩⟩
  ·rw [if_neg c6] at H
   have c6b0 : (a0_0 != a1_0) = false := by simpa using c6
   (try (have c6b1 : decide (a0_0 = a1_0) = true := by simpa using c6))
   (try (have c6b2 : (a0_0 == a1_0) = true := by simpa using c6))
   clear c6
   (first | rw [c6b0] | (simp only [i64_w, i32_w]; rw [c6b0]) | skip)
   by_cases c10 : a0_0 = true
   ·subst c10
    have H1 : ((spec_SameBytes.f l0_1 l1_1).bind fun t195 => (if t195 = true then (spec_PbSame.j0 k ((l0_2.length : Int) != (l1_2.length : Int)) true l0_1 l0_2 a1_0 l1_1 l1_2) else (spec_PbSame.j0 k true true l0_1 l0_2 a1_0 l1_1 l1_2))) = some r := by rw [if_pos rfl] at H; exact H
    clear H
    have H := H1
    clear H1
    replace H := Option.bind_eq_some_iff.mp H
    obtain ⟨t195, A110, H⟩ := H
    replace H : (if t195 = true then (spec_PbSame.j0 k ((l0_2.length : Int) != (l1_2.length : Int)) true l0_1 l0_2 a1_0 l1_1 l1_2) else (spec_PbSame.j0 k true true l0_1 l0_2 a1_0 l1_1 l1_2)) = some r := H
    have A11 := Aside0.mk A110
    clear A110
    by_cases c12 : t195 = true
    ·subst c12
     have H1 : (spec_PbSame.j0 k ((l0_2.length : Int) != (l1_2.length : Int)) true l0_1 l0_2 a1_0 l1_1 l1_2) = some r := by rw [if_pos rfl] at H; exact H
     clear H
     have H := H1
     clear H1
     have H' := Aside0.mk H
     clear H
     have hnb13 := NB193_194.out
     have hnc13 := NB194_193.out
     have hcz14_0 : w5.cell? ⟨gb193, 0, none⟩ = some (.bool true) := (blk_cell BK193.out 0).trans rfl
     have hcz14_1 : w5.cell? ⟨gb193, 1, none⟩ = some (.slice A0_1 l0_1.length c0_1) := (blk_cell BK193.out 1).trans rfl
     have hcz14_2 : w5.cell? ⟨gb193, 2, none⟩ = some (.slice A0_2 l0_2.length c0_2) := (blk_cell BK193.out 2).trans rfl
     have hfz14_0 := blk_frozen BK193.out 0
     have hfz14_1 := blk_frozen BK193.out 1
     have hfz14_2 := blk_frozen BK193.out 2
     have hcz15_0 : w5.cell? ⟨gb194, 0, none⟩ = some (.bool a1_0) := (blk_cell BK194.out 0).trans rfl
     have hcz15_1 : w5.cell? ⟨gb194, 1, none⟩ = some (.slice A1_1 l1_1.length c1_1) := (blk_cell BK194.out 1).trans rfl
     have hcz15_2 : w5.cell? ⟨gb194, 2, none⟩ = some (.slice A1_2 l1_2.length c1_2) := (blk_cell BK194.out 2).trans rfl
     have hfz15_0 := blk_frozen BK194.out 0
     have hfz15_1 := blk_frozen BK194.out 1
     have hfz15_2 := blk_frozen BK194.out 2
     go_wp2_with (first | (go_at_call 20; (with_reducible refine (spec_SameBytes.calls _ _ l0_1 _ _ l1_1 true _ ?side1 ?side2 ?side3 ?side4 A11.out).mono ?_); (case side1 => repeat (first | exact (Kd.C_below HR0_1.out HB.out) | (with_reducible refine Kd.C_alloc ?_ _) | (with_reducible refine Kd.C_drewN ?_ _) | (with_reducible refine Kd.C_drew ?_))); (case side2 => exact HC0_1.out); (case side3 => repeat (first | exact (Kd.C_below HR1_1.out HB.out) | (with_reducible refine Kd.C_alloc ?_ _) | (with_reducible refine Kd.C_drewN ?_ _) | (with_reducible refine Kd.C_drew ?_))); (case side4 => exact HC1_1.out); rintro e w' ⟨rfl, ⟨nd, rfl⟩⟩))
     go_meet
     case rel => exact ⟨_, (((l0_2.length : Int) != (l1_2.length : Int))), (by first | rfl | (simp; done) | (simp [*]; done)), H', ⟨by first | omega | exact Nat.le_refl _⟩, ⟨by (with_reducible repeat (first | refine blk_drewN ?_ _ | refine blk_drew ?_ | refine blk_alloc ?_ _)); exact BK193.out⟩, ⟨by (with_reducible repeat (first | refine blk_drewN ?_ _ | refine blk_drew ?_ | refine blk_alloc ?_ _)); exact BK194.out⟩, ⟨by repeat (first | (with_reducible first | exact HB.out | apply below_alloc | apply pw_below_drewN | apply below_drew1 | refine below_set ?_ GE193.out | refine below_set ?_ GE194.out) | exact HB.out)⟩⟩
    ·replace c12 := Bool.eq_false_iff.mpr c12
     subst c12
     have H1 : (spec_PbSame.j0 k true true l0_1 l0_2 a1_0 l1_1 l1_2) = some r := by rw [if_neg (show ¬ (false = true) by decide)] at H; exact H
     clear H
     have H := H1
     clear H1
     have H' := Aside0.mk H
     clear H
     have hnb16 := NB193_194.out
     have hnc16 := NB194_193.out
     have hcz17_0 : w5.cell? ⟨gb193, 0, none⟩ = some (.bool true) := (blk_cell BK193.out 0).trans rfl
     have hcz17_1 : w5.cell? ⟨gb193, 1, none⟩ = some (.slice A0_1 l0_1.length c0_1) := (blk_cell BK193.out 1).trans rfl
     have hcz17_2 : w5.cell? ⟨gb193, 2, none⟩ = some (.slice A0_2 l0_2.length c0_2) := (blk_cell BK193.out 2).trans rfl
     have hfz17_0 := blk_frozen BK193.out 0
     have hfz17_1 := blk_frozen BK193.out 1
     have hfz17_2 := blk_frozen BK193.out 2
     have hcz18_0 : w5.cell? ⟨gb194, 0, none⟩ = some (.bool a1_0) := (blk_cell BK194.out 0).trans rfl
     have hcz18_1 : w5.cell? ⟨gb194, 1, none⟩ = some (.slice A1_1 l1_1.length c1_1) := (blk_cell BK194.out 1).trans rfl
     have hcz18_2 : w5.cell? ⟨gb194, 2, none⟩ = some (.slice A1_2 l1_2.length c1_2) := (blk_cell BK194.out 2).trans rfl
     have hfz18_0 := blk_frozen BK194.out 0
     have hfz18_1 := blk_frozen BK194.out 1
     have hfz18_2 := blk_frozen BK194.out 2
     go_wp2_with (first | (go_at_call 20; (with_reducible refine (spec_SameBytes.calls _ _ l0_1 _ _ l1_1 false _ ?side1 ?side2 ?side3 ?side4 A11.out).mono ?_); (case side1 => repeat (first | exact (Kd.C_below HR0_1.out HB.out) | (with_reducible refine Kd.C_alloc ?_ _) | (with_reducible refine Kd.C_drewN ?_ _) | (with_reducible refine Kd.C_drew ?_))); (case side2 => exact HC0_1.out); (case side3 => repeat (first | exact (Kd.C_below HR1_1.out HB.out) | (with_reducible refine Kd.C_alloc ?_ _) | (with_reducible refine Kd.C_drewN ?_ _) | (with_reducible refine Kd.C_drew ?_))); (case side4 => exact HC1_1.out); rintro e w' ⟨rfl, ⟨nd, rfl⟩⟩))
     go_meet
     case rel => exact ⟨_, (true), (by first | rfl | (simp; done) | (simp [*]; done)), H', ⟨by first | omega | exact Nat.le_refl _⟩, ⟨by (with_reducible repeat (first | refine blk_drewN ?_ _ | refine blk_drew ?_ | refine blk_alloc ?_ _)); exact BK193.out⟩, ⟨by (with_reducible repeat (first | refine blk_drewN ?_ _ | refine blk_drew ?_ | refine blk_alloc ?_ _)); exact BK194.out⟩, ⟨by repeat (first | (with_reducible first | exact HB.out | apply below_alloc | apply pw_below_drewN | apply below_drew1 | refine below_set ?_ GE193.out | refine below_set ?_ GE194.out) | exact HB.out)⟩⟩
   ·replace c10 := Bool.eq_false_iff.mpr c10
    subst c10
    have H1 : (spec_PbSame.j0 k ((l0_2.length : Int) != (l1_2.length : Int)) false l0_1 l0_2 a1_0 l1_1 l1_2) = some r := by rw [if_neg (show ¬ (false = true) by decide)] at H; exact H
    clear H
    have H := H1
    clear H1
    have H' := Aside0.mk H
    clear H
    have hnb19 := NB193_194.out
    have hnc19 := NB194_193.out
    have hcz20_0 : w5.cell? ⟨gb193, 0, none⟩ = some (.bool false) := (blk_cell BK193.out 0).trans rfl
    have hcz20_1 : w5.cell? ⟨gb193, 1, none⟩ = some (.slice A0_1 l0_1.length c0_1) := (blk_cell BK193.out 1).trans rfl
    have hcz20_2 : w5.cell? ⟨gb193, 2, none⟩ = some (.slice A0_2 l0_2.length c0_2) := (blk_cell BK193.out 2).trans rfl
    have hfz20_0 := blk_frozen BK193.out 0
    have hfz20_1 := blk_frozen BK193.out 1
    have hfz20_2 := blk_frozen BK193.out 2
    have hcz21_0 : w5.cell? ⟨gb194, 0, none⟩ = some (.bool a1_0) := (blk_cell BK194.out 0).trans rfl
    have hcz21_1 : w5.cell? ⟨gb194, 1, none⟩ = some (.slice A1_1 l1_1.length c1_1) := (blk_cell BK194.out 1).trans rfl
    have hcz21_2 : w5.cell? ⟨gb194, 2, none⟩ = some (.slice A1_2 l1_2.length c1_2) := (blk_cell BK194.out 2).trans rfl
    have hfz21_0 := blk_frozen BK194.out 0
    have hfz21_1 := blk_frozen BK194.out 1
    have hfz21_2 := blk_frozen BK194.out 2
    go_wp2
    go_meet
    case rel => exact ⟨_, (((l0_2.length : Int) != (l1_2.length : Int))), (by first | rfl | (simp; done) | (simp [*]; done)), H', ⟨by first | omega | exact Nat.le_refl _⟩, ⟨by (with_reducible repeat (first | refine blk_drewN ?_ _ | refine blk_drew ?_ | refine blk_alloc ?_ _)); exact BK193.out⟩, ⟨by (with_reducible repeat (first | refine blk_drewN ?_ _ | refine blk_drew ?_ | refine blk_alloc ?_ _)); exact BK194.out⟩, ⟨by repeat (first | (with_reducible first | exact HB.out | apply below_alloc | apply pw_below_drewN | apply below_drew1 | refine below_set ?_ GE193.out | refine below_set ?_ GE194.out) | exact HB.out)⟩⟩
 case rest =>
  clear HC3
  try clear c1
  try clear c2
  try clear p2
  try clear c6
  try clear c6b0
  try clear c6b1
  try clear c6b2
  try clear c7
  try clear c10
  try clear c12
  try clear c13
  try clear c16
  try clear c19
  try clear hcz14_0
  try clear hcz14_1
  try clear hcz14_2
  try clear hcz15_0
  try clear hcz15_1
  try clear hcz15_2
  try clear hcz17_0
  try clear hcz17_1
  try clear hcz17_2
  try clear hcz18_0
  try clear hcz18_1
  try clear hcz18_2
  try clear hcz20_0
  try clear hcz20_1
  try clear hcz20_2
  try clear hcz21_0
  try clear hcz21_1
  try clear hcz21_2
  try clear hcz8_0
  try clear hcz8_1
  try clear hcz8_2
  try clear hcz9_0
  try clear hcz9_1
  try clear hcz9_2
  try clear hfz14_0
  try clear hfz14_1
  try clear hfz14_2
  try clear hfz15_0
  try clear hfz15_1
  try clear hfz15_2
  try clear hfz17_0
  try clear hfz17_1
  try clear hfz17_2
  try clear hfz18_0
  try clear hfz18_1
  try clear hfz18_2
  try clear hfz20_0
  try clear hfz20_1
  try clear hfz20_2
  try clear hfz21_0
  try clear hfz21_1
  try clear hfz21_2
  try clear hfz8_0
  try clear hfz8_1
  try clear hfz8_2
  try clear hfz9_0
  try clear hfz9_1
  try clear hfz9_2
  obtain ⟨kq, x31_2, rfl, HA, HJ2, BK193, BK194, HB⟩ := hcut
  cases kq with
  | zero => exact absurd HA.out (by simp [spec_PbSame.j0])
  | succ kj2 =>
   have H := HA.out
   clear HA
   simp only [spec_PbSame.j0] at H
   by_cases c22 : x31_2 = true
   ·subst c22
    have H1 : (some false) = some r := by rw [if_pos rfl] at H; exact H
    clear H
    have H := H1
    clear H1
    obtain rfl := Option.some.inj H
    go_wp2
    go_ret
    exact ⟨by first | rfl | (simp [errV_none, errV_some] <;> rfl) | (simp [*, errV_none, errV_some] <;> rfl), by repeat (first | (with_reducible first | exact HB.out | apply below_alloc | apply pw_below_drewN | apply below_drew1 | refine below_set ?_ GE193.out | refine below_set ?_ GE194.out) | exact HB.out)⟩
   ·replace c22 := Bool.eq_false_iff.mpr c22
    subst c22
    have H1 : (spec_PbSame.l0 kj2 (l0_2.length : Int) 0 a0_0 l0_1 l0_2 a1_0 l1_1 l1_2) = some r := by rw [if_neg (show ¬ (false = true) by decide)] at H; exact H
    clear H
    have H := H1
    clear H1
    have H' := Aside0.mk H
    clear H
    have hnb23 := NB193_194.out
    have hnc23 := NB194_193.out
    have hcz24_0 : wc.cell? ⟨gb193, 0, none⟩ = some (.bool a0_0) := (blk_cell BK193.out 0).trans rfl
    have hcz24_1 : wc.cell? ⟨gb193, 1, none⟩ = some (.slice A0_1 l0_1.length c0_1) := (blk_cell BK193.out 1).trans rfl
    have hcz24_2 : wc.cell? ⟨gb193, 2, none⟩ = some (.slice A0_2 l0_2.length c0_2) := (blk_cell BK193.out 2).trans rfl
    have hfz24_0 := blk_frozen BK193.out 0
    have hfz24_1 := blk_frozen BK193.out 1
    have hfz24_2 := blk_frozen BK193.out 2
    go_wp2
    (try simp only [Act.put, List.setIfInBounds_toArray, List.set_cons_zero, List.set_cons_succ])
    go_loopg [35] kj2 (fun kq v35 w' => ∃ (x35_2 : Int), v35 = .int .i64 x35_2 ∧ Aside0 (spec_PbSame.l0 kq (l0_2.length : Int) x35_2 a0_0 l0_1 l0_2 a1_0 l1_1 l1_2 = some r) ∧ Aside0 (kq ≤ kj2) ∧ Aside0 (w'.heap[gb193]? = some (.cells #[.bool a0_0, (.slice A0_1 l0_1.length c0_1), (.slice A0_2 l0_2.length c0_2)] 36 (0, 0))) ∧ Aside0 (w'.heap[gb194]? = some (.cells #[.bool a1_0, (.slice A1_1 l1_1.length c1_1), (.slice A1_2 l1_2.length c1_2)] 36 (0, 0))) ∧ Aside0 (Below w.heap.size w w'))
    case atStart => exact ⟨(0), (by first | rfl | (simp; done) | (simp [*]; done)), H', ⟨Nat.le_refl _⟩, ⟨by (with_reducible repeat (first | refine blk_drewN ?_ _ | refine blk_drew ?_ | refine blk_alloc ?_ _)); exact BK193.out⟩, ⟨by (with_reducible repeat (first | refine blk_drewN ?_ _ | refine blk_drew ?_ | refine blk_alloc ?_ _)); exact BK194.out⟩, ⟨by repeat (first | (with_reducible first | exact HB.out | apply below_alloc | apply pw_below_drewN | apply below_drew1 | refine below_set ?_ GE193.out | refine below_set ?_ GE194.out) | exact HB.out)⟩⟩
    case round =>
     clear H'
     try clear c1
     try clear c2
     try clear p2
     try clear c6
     try clear c6b0
     try clear c6b1
     try clear c6b2
     try clear c7
     try clear c10
     try clear c12
     try clear c13
     try clear c16
     try clear c19
     try clear c22
     try clear c23
     try clear c24
     try clear hcz14_0
     try clear hcz14_1
     try clear hcz14_2
     try clear hcz15_0
     try clear hcz15_1
     try clear hcz15_2
     try clear hcz17_0
     try clear hcz17_1
     try clear hcz17_2
     try clear hcz18_0
     try clear hcz18_1
     try clear hcz18_2
     try clear hcz20_0
     try clear hcz20_1
     try clear hcz20_2
     try clear hcz21_0
     try clear hcz21_1
     try clear hcz21_2
     try clear hcz24_0
     try clear hcz24_1
     try clear hcz24_2
     try clear hcz8_0
     try clear hcz8_1
     try clear hcz8_2
     try clear hcz9_0
     try clear hcz9_1
     try clear hcz9_2
     try clear hfz14_0
     try clear hfz14_1
     try clear hfz14_2
     try clear hfz15_0
     try clear hfz15_1
     try clear hfz15_2
     try clear hfz17_0
     try clear hfz17_1
     try clear hfz17_2
     try clear hfz18_0
     try clear hfz18_1
     try clear hfz18_2
     try clear hfz20_0
     try clear hfz20_1
     try clear hfz20_2
     try clear hfz21_0
     try clear hfz21_1
     try clear hfz21_2
     try clear hfz24_0
     try clear hfz24_1
     try clear hfz24_2
     try clear hfz8_0
     try clear hfz8_1
     try clear hfz8_2
     try clear hfz9_0
     try clear hfz9_1
     try clear hfz9_2
     try clear p2
     obtain ⟨x35_2, rfl, HA, HK2, BK193, BK194, HB⟩ := hrel
     cases gk with
     | zero => exact absurd HA.out (by simp [spec_PbSame.l0])
     | succ k2 =>
      have H := HA.out
      clear HA
      simp only [spec_PbSame.l0] at H
      by_cases c25 : x35_2 < (l0_2.length : Int)
      ·rw [if_pos c25] at H
       have c25b0 : decide (x35_2 < (l0_2.length : Int)) = true := decide_eq_true c25
       clear c25
       by_cases c26 : 0 ≤ x35_2
       ·rw [if_pos c26] at H
        have c26b0 : decide (0 ≤ x35_2) = true := decide_eq_true c26
        clear c26
        by_cases c27 : x35_2 < (l0_2.length : Int)
        ·rw [if_pos c27] at H
         have c27b0 : decide (x35_2 < (l0_2.length : Int)) = true := decide_eq_true c27
         clear c27
         by_cases c28 : x35_2 < (l1_2.length : Int)
         ·rw [if_pos c28] at H
          have c28b0 : decide (x35_2 < (l1_2.length : Int)) = true := decide_eq_true c28
          clear c28
          replace H := Option.bind_eq_some_iff.mp H
          obtain ⟨t198, A290, H⟩ := H
          replace H : (if t198 = true then (spec_PbSame.l0 k2 (l0_2.length : Int) (wrap64 (x35_2 + 1)) a0_0 l0_1 l0_2 a1_0 l1_1 l1_2) else (some false)) = some r := H
          have A29 := Aside0.mk A290
          clear A290
          by_cases c30 : t198 = true
          ·subst c30
           have H1 : (spec_PbSame.l0 k2 (l0_2.length : Int) (wrap64 (x35_2 + 1)) a0_0 l0_1 l0_2 a1_0 l1_1 l1_2) = some r := by rw [if_pos rfl] at H; exact H
           clear H
           have H := H1
           clear H1
           have H' := Aside0.mk H
           clear H
           try go_wp2
           have n0_ := Aside0.mk (blk_drew BK193.out)
           have n1_ := Aside0.mk (blk_drew BK194.out)
           have n2_ := Aside0.mk (below_drew1 HB.out)
           clear BK193
           clear BK194
           clear HB
           have BK193 := n0_
           have BK194 := n1_
           have HB := n2_
           clear n0_ n1_ n2_
           have p196 : 0 ≤ (x35_2 : Int) := of_decide_eq_true (by first | (with_reducible assumption) | assumption)
           have q196 : x35_2 < (l0_2.length : Int) := of_decide_eq_true (by first | (with_reducible assumption) | assumption)
           obtain ⟨ad196, A196_3, c196_3, e196, hx196_0, hx196_1, hx196_2, hx196_3, hx196_4, hx196_5, hl196_3, hi196_3⟩ := at_T27 HR0_2.out x35_2 p196 q196
           have hw196_5 := hx196_5
           have hw196_4 := hx196_4
           have hw196_3 := hx196_3
           have hw196_2 := hx196_2
           have hw196_1 := hx196_1
           have hw196_0 := hx196_0
           cases e196
           replace hx196_0 := (HB.out.cell (World.block_lt_of_cell? w _ hx196_0)).trans hx196_0
           replace hx196_1 := (HB.out.cell (World.block_lt_of_cell? w _ hx196_1)).trans hx196_1
           replace hx196_2 := (HB.out.cell (World.block_lt_of_cell? w _ hx196_2)).trans hx196_2
           replace hx196_3 := (HB.out.cell (World.block_lt_of_cell? w _ hx196_3)).trans hx196_3
           replace hx196_4 := (HB.out.cell (World.block_lt_of_cell? w _ hx196_4)).trans hx196_4
           replace hx196_5 := (HB.out.cell (World.block_lt_of_cell? w _ hx196_5)).trans hx196_5
           have HR196_3 := Aside0.mk hi196_3
           have HC196_3 := Aside0.mk hl196_3
           clear hi196_3 hl196_3
           replace p196 := eq_true p196
           replace q196 := eq_true q196
           have p197 : 0 ≤ (x35_2 : Int) := of_decide_eq_true (by first | (with_reducible assumption) | assumption)
           have q197 : x35_2 < (l1_2.length : Int) := of_decide_eq_true (by first | (with_reducible assumption) | assumption)
           obtain ⟨ad197, A197_3, c197_3, e197, hx197_0, hx197_1, hx197_2, hx197_3, hx197_4, hx197_5, hl197_3, hi197_3⟩ := at_T27 HR1_2.out x35_2 p197 q197
           have hw197_5 := hx197_5
           have hw197_4 := hx197_4
           have hw197_3 := hx197_3
           have hw197_2 := hx197_2
           have hw197_1 := hx197_1
           have hw197_0 := hx197_0
           cases e197
           replace hx197_0 := (HB.out.cell (World.block_lt_of_cell? w _ hx197_0)).trans hx197_0
           replace hx197_1 := (HB.out.cell (World.block_lt_of_cell? w _ hx197_1)).trans hx197_1
           replace hx197_2 := (HB.out.cell (World.block_lt_of_cell? w _ hx197_2)).trans hx197_2
           replace hx197_3 := (HB.out.cell (World.block_lt_of_cell? w _ hx197_3)).trans hx197_3
           replace hx197_4 := (HB.out.cell (World.block_lt_of_cell? w _ hx197_4)).trans hx197_4
           replace hx197_5 := (HB.out.cell (World.block_lt_of_cell? w _ hx197_5)).trans hx197_5
           have HR197_3 := Aside0.mk hi197_3
           have HC197_3 := Aside0.mk hl197_3
           clear hi197_3 hl197_3
           replace p197 := eq_true p197
           replace q197 := eq_true q197
           refine start_ (n := 12) (S := fun w' => w'.cell? ⟨gb193, 0, none⟩ = some (.bool a0_0) ∧ w'.cell? ⟨gb193, 1, none⟩ = some (.slice A0_1 l0_1.length c0_1) ∧ w'.cell? ⟨gb193, 2, none⟩ = some (.slice (some ad196) l0_2.length c0_2) ∧ w'.cell? ⟨gb194, 0, none⟩ = some (.bool a1_0) ∧ w'.cell? ⟨gb194, 1, none⟩ = some (.slice A1_1 l1_1.length c1_1) ∧ w'.cell? ⟨gb194, 2, none⟩ = some (.slice (some ad197) l1_2.length c1_2) ∧ w'.cell? (ad196.add ((x35_2).toNat * 6)) = some (.bool ((rd_T27 l0_2 x35_2).f0)) ∧ w'.cell? ⟨(ad196.add ((x35_2).toNat * 6)).block, (ad196.add ((x35_2).toNat * 6)).off + 1, none⟩ = some (.bool ((rd_T27 l0_2 x35_2).f1)) ∧ w'.cell? ⟨(ad196.add ((x35_2).toNat * 6)).block, (ad196.add ((x35_2).toNat * 6)).off + 2, none⟩ = some (.bool ((rd_T27 l0_2 x35_2).f2)) ∧ w'.cell? ⟨(ad196.add ((x35_2).toNat * 6)).block, (ad196.add ((x35_2).toNat * 6)).off + 3, none⟩ = some (.slice A196_3 ((rd_T27 l0_2 x35_2).f3).length c196_3) ∧ w'.cell? ⟨(ad196.add ((x35_2).toNat * 6)).block, (ad196.add ((x35_2).toNat * 6)).off + 4, none⟩ = some (.string ((rd_T27 l0_2 x35_2).f4)) ∧ w'.cell? ⟨(ad196.add ((x35_2).toNat * 6)).block, (ad196.add ((x35_2).toNat * 6)).off + 5, none⟩ = some (.int .u64 ((rd_T27 l0_2 x35_2).f5)) ∧ w'.cell? (ad197.add ((x35_2).toNat * 6)) = some (.bool ((rd_T27 l1_2 x35_2).f0)) ∧ w'.cell? ⟨(ad197.add ((x35_2).toNat * 6)).block, (ad197.add ((x35_2).toNat * 6)).off + 1, none⟩ = some (.bool ((rd_T27 l1_2 x35_2).f1)) ∧ w'.cell? ⟨(ad197.add ((x35_2).toNat * 6)).block, (ad197.add ((x35_2).toNat * 6)).off + 2, none⟩ = some (.bool ((rd_T27 l1_2 x35_2).f2)) ∧ w'.cell? ⟨(ad197.add ((x35_2).toNat * 6)).block, (ad197.add ((x35_2).toNat * 6)).off + 3, none⟩ = some (.slice A197_3 ((rd_T27 l1_2 x35_2).f3).length c197_3) ∧ w'.cell? ⟨(ad197.add ((x35_2).toNat * 6)).block, (ad197.add ((x35_2).toNat * 6)).off + 4, none⟩ = some (.string ((rd_T27 l1_2 x35_2).f4)) ∧ w'.cell? ⟨(ad197.add ((x35_2).toNat * 6)).block, (ad197.add ((x35_2).toNat * 6)).off + 5, none⟩ = some (.int .u64 ((rd_T27 l1_2 x35_2).f5))) (ds := []) #[false, false, false, false, false, false, false, false, false, false, false, false] (by kernel_rfl) rfl rfl ⟨(blk_cell BK193.out 0).trans rfl, (blk_cell BK193.out 1).trans rfl, (blk_cell BK193.out 2).trans rfl, (blk_cell BK194.out 0).trans rfl, (blk_cell BK194.out 1).trans rfl, (blk_cell BK194.out 2).trans rfl, ((HB.out.cell (World.block_lt_of_cell? w _ hw196_0)).trans hw196_0), ((HB.out.cell (World.block_lt_of_cell? w _ hw196_1)).trans hw196_1), ((HB.out.cell (World.block_lt_of_cell? w _ hw196_2)).trans hw196_2), ((HB.out.cell (World.block_lt_of_cell? w _ hw196_3)).trans hw196_3), ((HB.out.cell (World.block_lt_of_cell? w _ hw196_4)).trans hw196_4), ((HB.out.cell (World.block_lt_of_cell? w _ hw196_5)).trans hw196_5), ((HB.out.cell (World.block_lt_of_cell? w _ hw197_0)).trans hw197_0), ((HB.out.cell (World.block_lt_of_cell? w _ hw197_1)).trans hw197_1), ((HB.out.cell (World.block_lt_of_cell? w _ hw197_2)).trans hw197_2), ((HB.out.cell (World.block_lt_of_cell? w _ hw197_3)).trans hw197_3), ((HB.out.cell (World.block_lt_of_cell? w _ hw197_4)).trans hw197_4), ((HB.out.cell (World.block_lt_of_cell? w _ hw197_5)).trans hw197_5)⟩ (fun hHeld => ?_); refine with_tabW spec_PbSame.tab6 spec_PbSame.bits6 (fun HT_ HW_ => ?_)
           generalize wr.drew = w31 at BK193 BK194 HB HR196_3 HR197_3 hx196_0 hx196_1 hx196_2 hx196_3 hx196_4 hx196_5 hx197_0 hx197_1 hx197_2 hx197_3 hx197_4 hx197_5 hHeld ⊢
           refine pure_ (i := 0) (N := some 38) (v := ?_) (a' := ?_) #[true, false, false, false, false, false, false, false, false, false, false, false] rfl rfl (any_of HT_.out (by kernel_rfl)) (fun _ _ _ h => h) (Or.inl ⟨by rfl, ?_⟩) ?_ ?_
           rotate_left
           ·intro w'
            go_simp
            with_reducible rfl
           rotate_left
           ·simp only [Act.put, List.setIfInBounds_toArray, List.set_cons_zero, List.set_cons_succ, i64_w, i32_w]
            rfl
           refine pure_ (i := 2) (N := some 40) (v := ?_) (a' := ?_) #[true, false, true, false, false, false, false, false, false, false, false, false] rfl rfl (any_of HT_.out (by kernel_rfl)) (fun _ _ _ h => h) (Or.inl ⟨by rfl, ?_⟩) ?_ ?_
           rotate_left
           ·intro w'
            go_simp
            with_reducible rfl
           rotate_left
           ·simp only [Act.put, List.setIfInBounds_toArray, List.set_cons_zero, List.set_cons_succ, i64_w, i32_w]
            rfl
           refine pure_ (i := 5) (N := some 43) (v := ?_) (a' := ?_) #[true, false, true, false, false, true, false, false, false, false, false, false] rfl rfl (any_of HT_.out (by kernel_rfl)) (fun _ _ _ h => h) (Or.inl ⟨by rfl, ?_⟩) ?_ ?_
           rotate_left
           ·intro w'
            go_simp
            with_reducible rfl
           rotate_left
           ·simp only [Act.put, List.setIfInBounds_toArray, List.set_cons_zero, List.set_cons_succ, i64_w, i32_w]
            rfl
           refine pure_ (i := 7) (N := some 45) (v := ?_) (a' := ?_) #[true, false, true, false, false, true, false, true, false, false, false, false] rfl rfl (any_of HT_.out (by kernel_rfl)) (fun _ _ _ h => h) (Or.inl ⟨by rfl, ?_⟩) ?_ ?_
           rotate_left
           ·intro w'
            go_simp
            with_reducible rfl
           rotate_left
           ·simp only [Act.put, List.setIfInBounds_toArray, List.set_cons_zero, List.set_cons_succ, i64_w, i32_w]
            rfl
           refine take_ (i := 1) (N := some 39) (v := ?_) (a' := ?_) #[true, true, true, false, false, true, false, true, false, false, false, false] rfl rfl (take_ofW HT_.out HW_.out (by kernel_rfl)) (fun _ _ _ h => h) (Or.inl ⟨by rfl, ?_⟩) hHeld ?_ ?_
           rotate_left
           ·rintro w' ⟨s0, s1, s2, s3, s4, s5, s6, s7, s8, s9, s10, s11, s12, s13, s14, s15, s16, s17⟩
            go_simp
            with_reducible rfl
           rotate_left
           ·simp only [Act.put, List.setIfInBounds_toArray, List.set_cons_zero, List.set_cons_succ, i64_w, i32_w]
            rfl
           refine pure_ (i := 3) (N := some 41) (v := ?_) (a' := ?_) #[true, true, true, true, false, true, false, true, false, false, false, false] rfl rfl (any_of HT_.out (by kernel_rfl)) (fun _ _ _ h => h) (Or.inl ⟨by rfl, ?_⟩) ?_ ?_
           rotate_left
           ·intro w'
            go_simp
            with_reducible rfl
           rotate_left
           ·simp only [Act.put, List.setIfInBounds_toArray, List.set_cons_zero, List.set_cons_succ, i64_w, i32_w]
            rfl
           refine take_ (i := 4) (N := some 42) (v := ?_) (a' := ?_) #[true, true, true, true, true, true, false, true, false, false, false, false] rfl rfl (take_ofW HT_.out HW_.out (by kernel_rfl)) (fun _ _ _ h => h) (Or.inl ⟨by rfl, ?_⟩) hHeld ?_ ?_
           rotate_left
           ·rintro w' ⟨s0, s1, s2, s3, s4, s5, s6, s7, s8, s9, s10, s11, s12, s13, s14, s15, s16, s17⟩
            go_simp
            with_reducible rfl
           rotate_left
           ·simp only [Act.put, List.setIfInBounds_toArray, List.set_cons_zero, List.set_cons_succ, i64_w, i32_w]
            rfl
           refine take_ (i := 6) (N := some 44) (v := ?_) (a' := ?_) #[true, true, true, true, true, true, true, true, false, false, false, false] rfl rfl (take_ofW HT_.out HW_.out (by kernel_rfl)) (fun _ _ _ h => h) (Or.inl ⟨by rfl, ?_⟩) hHeld ?_ ?_
           rotate_left
           ·rintro w' ⟨s0, s1, s2, s3, s4, s5, s6, s7, s8, s9, s10, s11, s12, s13, s14, s15, s16, s17⟩
            go_simp
            with_reducible rfl
           rotate_left
           ·simp only [Act.put, List.setIfInBounds_toArray, List.set_cons_zero, List.set_cons_succ, i64_w, i32_w]
            rfl
           refine pure_ (i := 8) (N := some 46) (v := ?_) (a' := ?_) #[true, true, true, true, true, true, true, true, true, false, false, false] rfl rfl (any_of HT_.out (by kernel_rfl)) (fun _ _ _ h => h) (Or.inl ⟨by rfl, ?_⟩) ?_ ?_
           rotate_left
           ·intro w'
            go_simp
            with_reducible rfl
           rotate_left
           ·simp only [Act.put, List.setIfInBounds_toArray, List.set_cons_zero, List.set_cons_succ, i64_w, i32_w]
            rfl
           refine take_ (i := 9) (N := some 47) (v := ?_) (a' := ?_) #[true, true, true, true, true, true, true, true, true, true, false, false] rfl rfl (take_ofW HT_.out HW_.out (by kernel_rfl)) (fun _ _ _ h => h) (Or.inl ⟨by rfl, ?_⟩) hHeld ?_ ?_
           rotate_left
           ·rintro w' ⟨s0, s1, s2, s3, s4, s5, s6, s7, s8, s9, s10, s11, s12, s13, s14, s15, s16, s17⟩
            go_simp
            with_reducible rfl
           rotate_left
           ·simp only [Act.put, List.setIfInBounds_toArray, List.set_cons_zero, List.set_cons_succ, i64_w, i32_w]
            rfl
           refine one_ (i := 10) (N := some 48) #[true, true, true, true, true, true, true, true, true, true, true, false] rfl rfl (one_of HT_.out (by kernel_rfl)) (by decide) (fun K hK => ?_)
           refine goes_ Tryd.func15 (by kernel_rfl) rfl #[.agg #[.bool ((rd_T27 l0_2 x35_2).f0), .bool ((rd_T27 l0_2 x35_2).f1), .bool ((rd_T27 l0_2 x35_2).f2), .slice A196_3 ((rd_T27 l0_2 x35_2).f3).length c196_3, .string ((rd_T27 l0_2 x35_2).f4), .int .u64 ((rd_T27 l0_2 x35_2).f5)], .agg #[.bool ((rd_T27 l1_2 x35_2).f0), .bool ((rd_T27 l1_2 x35_2).f1), .bool ((rd_T27 l1_2 x35_2).f2), .slice A197_3 ((rd_T27 l1_2 x35_2).f3).length c197_3, .string ((rd_T27 l1_2 x35_2).f4), .int .u64 ((rd_T27 l1_2 x35_2).f5)]] (by rfl) rfl rfl (by (try simp only [List.map_toArray, List.map_cons, List.map_nil]); first | done | rfl | (simp only [List.length_drop, List.length_take]; rfl)) ?_
           with_reducible refine (spec_PbSameLink.calls ((rd_T27 l0_2 x35_2).f0) ((rd_T27 l0_2 x35_2).f1) ((rd_T27 l0_2 x35_2).f2) _ _ ((rd_T27 l0_2 x35_2).f3) ((rd_T27 l0_2 x35_2).f4) ((rd_T27 l0_2 x35_2).f5) ((rd_T27 l1_2 x35_2).f0) ((rd_T27 l1_2 x35_2).f1) ((rd_T27 l1_2 x35_2).f2) _ _ ((rd_T27 l1_2 x35_2).f3) ((rd_T27 l1_2 x35_2).f4) ((rd_T27 l1_2 x35_2).f5) true _ ?side1 ?side2 ?side3 ?side4 A29.out).mono ?_
           (case side1 => repeat (first | exact (Kd.C_below HR196_3.out HB.out) | (with_reducible refine Kd.C_alloc ?_ _) | (with_reducible refine Kd.C_drewN ?_ _) | (with_reducible refine Kd.C_drew ?_)))
           (case side2 => exact HC196_3.out)
           (case side3 => repeat (first | exact (Kd.C_below HR197_3.out HB.out) | (with_reducible refine Kd.C_alloc ?_ _) | (with_reducible refine Kd.C_drewN ?_ _) | (with_reducible refine Kd.C_drew ?_)))
           (case side4 => exact HC197_3.out)
           rintro e w32 ⟨rfl, hb⟩
           refine ⟨_, rfl, ?_⟩
           have n0_ := Aside0.mk (blk_below (g := gb193) (o := .cells #[.bool a0_0, .slice A0_1 l0_1.length c0_1, .slice (some ad196) l0_2.length c0_2] 36 (0, 0)) (by (with_reducible repeat (first | refine blk_drewN ?_ _ | refine blk_drew ?_ | refine blk_alloc ?_ _)); exact BK193.out) hb)
           have n1_ := Aside0.mk (blk_below (g := gb194) (o := .cells #[.bool a1_0, .slice A1_1 l1_1.length c1_1, .slice (some ad197) l1_2.length c1_2] 36 (0, 0)) (by (with_reducible repeat (first | refine blk_drewN ?_ _ | refine blk_drew ?_ | refine blk_alloc ?_ _)); exact BK194.out) hb)
           have n2_ := Aside0.mk (below_step (by repeat (first | (with_reducible first | exact HB.out | apply below_alloc | apply pw_below_drewN | apply below_drew1 | refine below_set ?_ GE193.out | refine below_set ?_ GE194.out) | exact HB.out)) hb)
           clear BK193
           clear BK194
           clear HB
           have BK193 := n0_
           have BK194 := n1_
           have HB := n2_
           clear n0_ n1_ n2_
           (try clear hb)
           (try clear hb2)
           (try clear hk)
           (try clear hi)
           refine hK.out _ _ ⟨(blk_cell BK193.out 0).trans rfl, (blk_cell BK193.out 1).trans rfl, (blk_cell BK193.out 2).trans rfl, (blk_cell BK194.out 0).trans rfl, (blk_cell BK194.out 1).trans rfl, (blk_cell BK194.out 2).trans rfl, ((HB.out.cell (World.block_lt_of_cell? w _ hw196_0)).trans hw196_0), ((HB.out.cell (World.block_lt_of_cell? w _ hw196_1)).trans hw196_1), ((HB.out.cell (World.block_lt_of_cell? w _ hw196_2)).trans hw196_2), ((HB.out.cell (World.block_lt_of_cell? w _ hw196_3)).trans hw196_3), ((HB.out.cell (World.block_lt_of_cell? w _ hw196_4)).trans hw196_4), ((HB.out.cell (World.block_lt_of_cell? w _ hw196_5)).trans hw196_5), ((HB.out.cell (World.block_lt_of_cell? w _ hw197_0)).trans hw197_0), ((HB.out.cell (World.block_lt_of_cell? w _ hw197_1)).trans hw197_1), ((HB.out.cell (World.block_lt_of_cell? w _ hw197_2)).trans hw197_2), ((HB.out.cell (World.block_lt_of_cell? w _ hw197_3)).trans hw197_3), ((HB.out.cell (World.block_lt_of_cell? w _ hw197_4)).trans hw197_4), ((HB.out.cell (World.block_lt_of_cell? w _ hw197_5)).trans hw197_5)⟩ (fun hHeld => ?_)
           clear hK K
           refine norm_ (a' := ?_) ?_ ?_
           rotate_left
           ·show Act.put _ (some 48) _ = _
            simp only [Act.put, List.setIfInBounds_toArray, List.set_cons_zero, List.set_cons_succ, i64_w, i32_w]
            rfl
           refine pure_ (i := 11) (N := some 49) (v := ?_) (a' := ?_) #[true, true, true, true, true, true, true, true, true, true, true, true] rfl rfl (any_of HT_.out (by kernel_rfl)) (fun _ _ _ h => h) (Or.inl ⟨by rfl, ?_⟩) ?_ ?_
           rotate_left
           ·intro w'
            go_simp
            with_reducible rfl
           rotate_left
           ·simp only [Act.put, List.setIfInBounds_toArray, List.set_cons_zero, List.set_cons_succ, i64_w, i32_w]
            rfl
           refine done_ (done_of HT_.out (by kernel_rfl)) ?_
           try go_wp2
           go_roundg k2
           case measure => have := HJ2.out; have := HK2.out; omega
           case rel => exact ⟨(wrap64 (x35_2 + 1)), (by first | rfl | (simp; done) | (simp [*]; done)), H', ⟨by have := HJ2.out; have := HK2.out; omega⟩, ⟨by (with_reducible repeat (first | refine blk_drewN ?_ _ | refine blk_drew ?_ | refine blk_alloc ?_ _)); exact BK193.out⟩, ⟨by (with_reducible repeat (first | refine blk_drewN ?_ _ | refine blk_drew ?_ | refine blk_alloc ?_ _)); exact BK194.out⟩, ⟨by repeat (first | (with_reducible first | exact HB.out | apply below_alloc | apply pw_below_drewN | apply below_drew1 | refine below_set ?_ GE193.out | refine below_set ?_ GE194.out) | exact HB.out)⟩⟩
          ·replace c30 := Bool.eq_false_iff.mpr c30
           subst c30
           have H1 : (some false) = some r := by rw [if_neg (show ¬ (false = true) by decide)] at H; exact H
           clear H
           have H := H1
           clear H1
           obtain rfl := Option.some.inj H
           try go_wp2
           have n0_ := Aside0.mk (blk_drew BK193.out)
           have n1_ := Aside0.mk (blk_drew BK194.out)
           have n2_ := Aside0.mk (below_drew1 HB.out)
           clear BK193
           clear BK194
           clear HB
           have BK193 := n0_
           have BK194 := n1_
           have HB := n2_
           clear n0_ n1_ n2_
           have p196 : 0 ≤ (x35_2 : Int) := of_decide_eq_true (by first | (with_reducible assumption) | assumption)
           have q196 : x35_2 < (l0_2.length : Int) := of_decide_eq_true (by first | (with_reducible assumption) | assumption)
           obtain ⟨ad196, A196_3, c196_3, e196, hx196_0, hx196_1, hx196_2, hx196_3, hx196_4, hx196_5, hl196_3, hi196_3⟩ := at_T27 HR0_2.out x35_2 p196 q196
           have hw196_5 := hx196_5
           have hw196_4 := hx196_4
           have hw196_3 := hx196_3
           have hw196_2 := hx196_2
           have hw196_1 := hx196_1
           have hw196_0 := hx196_0
           cases e196
           replace hx196_0 := (HB.out.cell (World.block_lt_of_cell? w _ hx196_0)).trans hx196_0
           replace hx196_1 := (HB.out.cell (World.block_lt_of_cell? w _ hx196_1)).trans hx196_1
           replace hx196_2 := (HB.out.cell (World.block_lt_of_cell? w _ hx196_2)).trans hx196_2
           replace hx196_3 := (HB.out.cell (World.block_lt_of_cell? w _ hx196_3)).trans hx196_3
           replace hx196_4 := (HB.out.cell (World.block_lt_of_cell? w _ hx196_4)).trans hx196_4
           replace hx196_5 := (HB.out.cell (World.block_lt_of_cell? w _ hx196_5)).trans hx196_5
           have HR196_3 := Aside0.mk hi196_3
           have HC196_3 := Aside0.mk hl196_3
           clear hi196_3 hl196_3
           replace p196 := eq_true p196
           replace q196 := eq_true q196
           have p197 : 0 ≤ (x35_2 : Int) := of_decide_eq_true (by first | (with_reducible assumption) | assumption)
           have q197 : x35_2 < (l1_2.length : Int) := of_decide_eq_true (by first | (with_reducible assumption) | assumption)
           obtain ⟨ad197, A197_3, c197_3, e197, hx197_0, hx197_1, hx197_2, hx197_3, hx197_4, hx197_5, hl197_3, hi197_3⟩ := at_T27 HR1_2.out x35_2 p197 q197
           have hw197_5 := hx197_5
           have hw197_4 := hx197_4
           have hw197_3 := hx197_3
           have hw197_2 := hx197_2
           have hw197_1 := hx197_1
           have hw197_0 := hx197_0
           cases e197
           replace hx197_0 := (HB.out.cell (World.block_lt_of_cell? w _ hx197_0)).trans hx197_0
           replace hx197_1 := (HB.out.cell (World.block_lt_of_cell? w _ hx197_1)).trans hx197_1
           replace hx197_2 := (HB.out.cell (World.block_lt_of_cell? w _ hx197_2)).trans hx197_2
           replace hx197_3 := (HB.out.cell (World.block_lt_of_cell? w _ hx197_3)).trans hx197_3
           replace hx197_4 := (HB.out.cell (World.block_lt_of_cell? w _ hx197_4)).trans hx197_4
           replace hx197_5 := (HB.out.cell (World.block_lt_of_cell? w _ hx197_5)).trans hx197_5
           have HR197_3 := Aside0.mk hi197_3
           have HC197_3 := Aside0.mk hl197_3
           clear hi197_3 hl197_3
           replace p197 := eq_true p197
           replace q197 := eq_true q197
           refine start_ (n := 12) (S := fun w' => w'.cell? ⟨gb193, 0, none⟩ = some (.bool a0_0) ∧ w'.cell? ⟨gb193, 1, none⟩ = some (.slice A0_1 l0_1.length c0_1) ∧ w'.cell? ⟨gb193, 2, none⟩ = some (.slice (some ad196) l0_2.length c0_2) ∧ w'.cell? ⟨gb194, 0, none⟩ = some (.bool a1_0) ∧ w'.cell? ⟨gb194, 1, none⟩ = some (.slice A1_1 l1_1.length c1_1) ∧ w'.cell? ⟨gb194, 2, none⟩ = some (.slice (some ad197) l1_2.length c1_2) ∧ w'.cell? (ad196.add ((x35_2).toNat * 6)) = some (.bool ((rd_T27 l0_2 x35_2).f0)) ∧ w'.cell? ⟨(ad196.add ((x35_2).toNat * 6)).block, (ad196.add ((x35_2).toNat * 6)).off + 1, none⟩ = some (.bool ((rd_T27 l0_2 x35_2).f1)) ∧ w'.cell? ⟨(ad196.add ((x35_2).toNat * 6)).block, (ad196.add ((x35_2).toNat * 6)).off + 2, none⟩ = some (.bool ((rd_T27 l0_2 x35_2).f2)) ∧ w'.cell? ⟨(ad196.add ((x35_2).toNat * 6)).block, (ad196.add ((x35_2).toNat * 6)).off + 3, none⟩ = some (.slice A196_3 ((rd_T27 l0_2 x35_2).f3).length c196_3) ∧ w'.cell? ⟨(ad196.add ((x35_2).toNat * 6)).block, (ad196.add ((x35_2).toNat * 6)).off + 4, none⟩ = some (.string ((rd_T27 l0_2 x35_2).f4)) ∧ w'.cell? ⟨(ad196.add ((x35_2).toNat * 6)).block, (ad196.add ((x35_2).toNat * 6)).off + 5, none⟩ = some (.int .u64 ((rd_T27 l0_2 x35_2).f5)) ∧ w'.cell? (ad197.add ((x35_2).toNat * 6)) = some (.bool ((rd_T27 l1_2 x35_2).f0)) ∧ w'.cell? ⟨(ad197.add ((x35_2).toNat * 6)).block, (ad197.add ((x35_2).toNat * 6)).off + 1, none⟩ = some (.bool ((rd_T27 l1_2 x35_2).f1)) ∧ w'.cell? ⟨(ad197.add ((x35_2).toNat * 6)).block, (ad197.add ((x35_2).toNat * 6)).off + 2, none⟩ = some (.bool ((rd_T27 l1_2 x35_2).f2)) ∧ w'.cell? ⟨(ad197.add ((x35_2).toNat * 6)).block, (ad197.add ((x35_2).toNat * 6)).off + 3, none⟩ = some (.slice A197_3 ((rd_T27 l1_2 x35_2).f3).length c197_3) ∧ w'.cell? ⟨(ad197.add ((x35_2).toNat * 6)).block, (ad197.add ((x35_2).toNat * 6)).off + 4, none⟩ = some (.string ((rd_T27 l1_2 x35_2).f4)) ∧ w'.cell? ⟨(ad197.add ((x35_2).toNat * 6)).block, (ad197.add ((x35_2).toNat * 6)).off + 5, none⟩ = some (.int .u64 ((rd_T27 l1_2 x35_2).f5))) (ds := []) #[false, false, false, false, false, false, false, false, false, false, false, false] (by kernel_rfl) rfl rfl ⟨(blk_cell BK193.out 0).trans rfl, (blk_cell BK193.out 1).trans rfl, (blk_cell BK193.out 2).trans rfl, (blk_cell BK194.out 0).trans rfl, (blk_cell BK194.out 1).trans rfl, (blk_cell BK194.out 2).trans rfl, ((HB.out.cell (World.block_lt_of_cell? w _ hw196_0)).trans hw196_0), ((HB.out.cell (World.block_lt_of_cell? w _ hw196_1)).trans hw196_1), ((HB.out.cell (World.block_lt_of_cell? w _ hw196_2)).trans hw196_2), ((HB.out.cell (World.block_lt_of_cell? w _ hw196_3)).trans hw196_3), ((HB.out.cell (World.block_lt_of_cell? w _ hw196_4)).trans hw196_4), ((HB.out.cell (World.block_lt_of_cell? w _ hw196_5)).trans hw196_5), ((HB.out.cell (World.block_lt_of_cell? w _ hw197_0)).trans hw197_0), ((HB.out.cell (World.block_lt_of_cell? w _ hw197_1)).trans hw197_1), ((HB.out.cell (World.block_lt_of_cell? w _ hw197_2)).trans hw197_2), ((HB.out.cell (World.block_lt_of_cell? w _ hw197_3)).trans hw197_3), ((HB.out.cell (World.block_lt_of_cell? w _ hw197_4)).trans hw197_4), ((HB.out.cell (World.block_lt_of_cell? w _ hw197_5)).trans hw197_5)⟩ (fun hHeld => ?_); refine with_tabW spec_PbSame.tab6 spec_PbSame.bits6 (fun HT_ HW_ => ?_)
           generalize wr.drew = w33 at BK193 BK194 HB HR196_3 HR197_3 hx196_0 hx196_1 hx196_2 hx196_3 hx196_4 hx196_5 hx197_0 hx197_1 hx197_2 hx197_3 hx197_4 hx197_5 hHeld ⊢
           refine pure_ (i := 0) (N := some 38) (v := ?_) (a' := ?_) #[true, false, false, false, false, false, false, false, false, false, false, false] rfl rfl (any_of HT_.out (by kernel_rfl)) (fun _ _ _ h => h) (Or.inl ⟨by rfl, ?_⟩) ?_ ?_
           rotate_left
           ·intro w'
            go_simp
            with_reducible rfl
           rotate_left
           ·simp only [Act.put, List.setIfInBounds_toArray, List.set_cons_zero, List.set_cons_succ, i64_w, i32_w]
            rfl
           refine pure_ (i := 2) (N := some 40) (v := ?_) (a' := ?_) #[true, false, true, false, false, false, false, false, false, false, false, false] rfl rfl (any_of HT_.out (by kernel_rfl)) (fun _ _ _ h => h) (Or.inl ⟨by rfl, ?_⟩) ?_ ?_
           rotate_left
           ·intro w'
            go_simp
            with_reducible rfl
           rotate_left
           ·simp only [Act.put, List.setIfInBounds_toArray, List.set_cons_zero, List.set_cons_succ, i64_w, i32_w]
            rfl
           refine pure_ (i := 5) (N := some 43) (v := ?_) (a' := ?_) #[true, false, true, false, false, true, false, false, false, false, false, false] rfl rfl (any_of HT_.out (by kernel_rfl)) (fun _ _ _ h => h) (Or.inl ⟨by rfl, ?_⟩) ?_ ?_
           rotate_left
           ·intro w'
            go_simp
            with_reducible rfl
           rotate_left
           ·simp only [Act.put, List.setIfInBounds_toArray, List.set_cons_zero, List.set_cons_succ, i64_w, i32_w]
            rfl
           refine pure_ (i := 7) (N := some 45) (v := ?_) (a' := ?_) #[true, false, true, false, false, true, false, true, false, false, false, false] rfl rfl (any_of HT_.out (by kernel_rfl)) (fun _ _ _ h => h) (Or.inl ⟨by rfl, ?_⟩) ?_ ?_
           rotate_left
           ·intro w'
            go_simp
            with_reducible rfl
           rotate_left
           ·simp only [Act.put, List.setIfInBounds_toArray, List.set_cons_zero, List.set_cons_succ, i64_w, i32_w]
            rfl
           refine take_ (i := 1) (N := some 39) (v := ?_) (a' := ?_) #[true, true, true, false, false, true, false, true, false, false, false, false] rfl rfl (take_ofW HT_.out HW_.out (by kernel_rfl)) (fun _ _ _ h => h) (Or.inl ⟨by rfl, ?_⟩) hHeld ?_ ?_
           rotate_left
           ·rintro w' ⟨s0, s1, s2, s3, s4, s5, s6, s7, s8, s9, s10, s11, s12, s13, s14, s15, s16, s17⟩
            go_simp
            with_reducible rfl
           rotate_left
           ·simp only [Act.put, List.setIfInBounds_toArray, List.set_cons_zero, List.set_cons_succ, i64_w, i32_w]
            rfl
           refine pure_ (i := 3) (N := some 41) (v := ?_) (a' := ?_) #[true, true, true, true, false, true, false, true, false, false, false, false] rfl rfl (any_of HT_.out (by kernel_rfl)) (fun _ _ _ h => h) (Or.inl ⟨by rfl, ?_⟩) ?_ ?_
           rotate_left
           ·intro w'
            go_simp
            with_reducible rfl
           rotate_left
           ·simp only [Act.put, List.setIfInBounds_toArray, List.set_cons_zero, List.set_cons_succ, i64_w, i32_w]
            rfl
           refine take_ (i := 4) (N := some 42) (v := ?_) (a' := ?_) #[true, true, true, true, true, true, false, true, false, false, false, false] rfl rfl (take_ofW HT_.out HW_.out (by kernel_rfl)) (fun _ _ _ h => h) (Or.inl ⟨by rfl, ?_⟩) hHeld ?_ ?_
           rotate_left
           ·rintro w' ⟨s0, s1, s2, s3, s4, s5, s6, s7, s8, s9, s10, s11, s12, s13, s14, s15, s16, s17⟩
            go_simp
            with_reducible rfl
           rotate_left
           ·simp only [Act.put, List.setIfInBounds_toArray, List.set_cons_zero, List.set_cons_succ, i64_w, i32_w]
            rfl
           refine take_ (i := 6) (N := some 44) (v := ?_) (a' := ?_) #[true, true, true, true, true, true, true, true, false, false, false, false] rfl rfl (take_ofW HT_.out HW_.out (by kernel_rfl)) (fun _ _ _ h => h) (Or.inl ⟨by rfl, ?_⟩) hHeld ?_ ?_
           rotate_left
           ·rintro w' ⟨s0, s1, s2, s3, s4, s5, s6, s7, s8, s9, s10, s11, s12, s13, s14, s15, s16, s17⟩
            go_simp
            with_reducible rfl
           rotate_left
           ·simp only [Act.put, List.setIfInBounds_toArray, List.set_cons_zero, List.set_cons_succ, i64_w, i32_w]
            rfl
           refine pure_ (i := 8) (N := some 46) (v := ?_) (a' := ?_) #[true, true, true, true, true, true, true, true, true, false, false, false] rfl rfl (any_of HT_.out (by kernel_rfl)) (fun _ _ _ h => h) (Or.inl ⟨by rfl, ?_⟩) ?_ ?_
           rotate_left
           ·intro w'
            go_simp
            with_reducible rfl
           rotate_left
           ·simp only [Act.put, List.setIfInBounds_toArray, List.set_cons_zero, List.set_cons_succ, i64_w, i32_w]
            rfl
           refine take_ (i := 9) (N := some 47) (v := ?_) (a' := ?_) #[true, true, true, true, true, true, true, true, true, true, false, false] rfl rfl (take_ofW HT_.out HW_.out (by kernel_rfl)) (fun _ _ _ h => h) (Or.inl ⟨by rfl, ?_⟩) hHeld ?_ ?_
           rotate_left
           ·rintro w' ⟨s0, s1, s2, s3, s4, s5, s6, s7, s8, s9, s10, s11, s12, s13, s14, s15, s16, s17⟩
            go_simp
            with_reducible rfl
           rotate_left
           ·simp only [Act.put, List.setIfInBounds_toArray, List.set_cons_zero, List.set_cons_succ, i64_w, i32_w]
            rfl
           refine one_ (i := 10) (N := some 48) #[true, true, true, true, true, true, true, true, true, true, true, false] rfl rfl (one_of HT_.out (by kernel_rfl)) (by decide) (fun K hK => ?_)
           refine goes_ Tryd.func15 (by kernel_rfl) rfl #[.agg #[.bool ((rd_T27 l0_2 x35_2).f0), .bool ((rd_T27 l0_2 x35_2).f1), .bool ((rd_T27 l0_2 x35_2).f2), .slice A196_3 ((rd_T27 l0_2 x35_2).f3).length c196_3, .string ((rd_T27 l0_2 x35_2).f4), .int .u64 ((rd_T27 l0_2 x35_2).f5)], .agg #[.bool ((rd_T27 l1_2 x35_2).f0), .bool ((rd_T27 l1_2 x35_2).f1), .bool ((rd_T27 l1_2 x35_2).f2), .slice A197_3 ((rd_T27 l1_2 x35_2).f3).length c197_3, .string ((rd_T27 l1_2 x35_2).f4), .int .u64 ((rd_T27 l1_2 x35_2).f5)]] (by rfl) rfl rfl (by (try simp only [List.map_toArray, List.map_cons, List.map_nil]); first | done | rfl | (simp only [List.length_drop, List.length_take]; rfl)) ?_
           with_reducible refine (spec_PbSameLink.calls ((rd_T27 l0_2 x35_2).f0) ((rd_T27 l0_2 x35_2).f1) ((rd_T27 l0_2 x35_2).f2) _ _ ((rd_T27 l0_2 x35_2).f3) ((rd_T27 l0_2 x35_2).f4) ((rd_T27 l0_2 x35_2).f5) ((rd_T27 l1_2 x35_2).f0) ((rd_T27 l1_2 x35_2).f1) ((rd_T27 l1_2 x35_2).f2) _ _ ((rd_T27 l1_2 x35_2).f3) ((rd_T27 l1_2 x35_2).f4) ((rd_T27 l1_2 x35_2).f5) false _ ?side1 ?side2 ?side3 ?side4 A29.out).mono ?_
           (case side1 => repeat (first | exact (Kd.C_below HR196_3.out HB.out) | (with_reducible refine Kd.C_alloc ?_ _) | (with_reducible refine Kd.C_drewN ?_ _) | (with_reducible refine Kd.C_drew ?_)))
           (case side2 => exact HC196_3.out)
           (case side3 => repeat (first | exact (Kd.C_below HR197_3.out HB.out) | (with_reducible refine Kd.C_alloc ?_ _) | (with_reducible refine Kd.C_drewN ?_ _) | (with_reducible refine Kd.C_drew ?_)))
           (case side4 => exact HC197_3.out)
           rintro e w34 ⟨rfl, hb⟩
           refine ⟨_, rfl, ?_⟩
           have n0_ := Aside0.mk (blk_below (g := gb193) (o := .cells #[.bool a0_0, .slice A0_1 l0_1.length c0_1, .slice (some ad196) l0_2.length c0_2] 36 (0, 0)) (by (with_reducible repeat (first | refine blk_drewN ?_ _ | refine blk_drew ?_ | refine blk_alloc ?_ _)); exact BK193.out) hb)
           have n1_ := Aside0.mk (blk_below (g := gb194) (o := .cells #[.bool a1_0, .slice A1_1 l1_1.length c1_1, .slice (some ad197) l1_2.length c1_2] 36 (0, 0)) (by (with_reducible repeat (first | refine blk_drewN ?_ _ | refine blk_drew ?_ | refine blk_alloc ?_ _)); exact BK194.out) hb)
           have n2_ := Aside0.mk (below_step (by repeat (first | (with_reducible first | exact HB.out | apply below_alloc | apply pw_below_drewN | apply below_drew1 | refine below_set ?_ GE193.out | refine below_set ?_ GE194.out) | exact HB.out)) hb)
           clear BK193
           clear BK194
           clear HB
           have BK193 := n0_
           have BK194 := n1_
           have HB := n2_
           clear n0_ n1_ n2_
           (try clear hb)
           (try clear hb2)
           (try clear hk)
           (try clear hi)
           refine hK.out _ _ ⟨(blk_cell BK193.out 0).trans rfl, (blk_cell BK193.out 1).trans rfl, (blk_cell BK193.out 2).trans rfl, (blk_cell BK194.out 0).trans rfl, (blk_cell BK194.out 1).trans rfl, (blk_cell BK194.out 2).trans rfl, ((HB.out.cell (World.block_lt_of_cell? w _ hw196_0)).trans hw196_0), ((HB.out.cell (World.block_lt_of_cell? w _ hw196_1)).trans hw196_1), ((HB.out.cell (World.block_lt_of_cell? w _ hw196_2)).trans hw196_2), ((HB.out.cell (World.block_lt_of_cell? w _ hw196_3)).trans hw196_3), ((HB.out.cell (World.block_lt_of_cell? w _ hw196_4)).trans hw196_4), ((HB.out.cell (World.block_lt_of_cell? w _ hw196_5)).trans hw196_5), ((HB.out.cell (World.block_lt_of_cell? w _ hw197_0)).trans hw197_0), ((HB.out.cell (World.block_lt_of_cell? w _ hw197_1)).trans hw197_1), ((HB.out.cell (World.block_lt_of_cell? w _ hw197_2)).trans hw197_2), ((HB.out.cell (World.block_lt_of_cell? w _ hw197_3)).trans hw197_3), ((HB.out.cell (World.block_lt_of_cell? w _ hw197_4)).trans hw197_4), ((HB.out.cell (World.block_lt_of_cell? w _ hw197_5)).trans hw197_5)⟩ (fun hHeld => ?_)
           clear hK K
           refine norm_ (a' := ?_) ?_ ?_
           rotate_left
           ·show Act.put _ (some 48) _ = _
            simp only [Act.put, List.setIfInBounds_toArray, List.set_cons_zero, List.set_cons_succ, i64_w, i32_w]
            rfl
           refine pure_ (i := 11) (N := some 49) (v := ?_) (a' := ?_) #[true, true, true, true, true, true, true, true, true, true, true, true] rfl rfl (any_of HT_.out (by kernel_rfl)) (fun _ _ _ h => h) (Or.inl ⟨by rfl, ?_⟩) ?_ ?_
           rotate_left
           ·intro w'
            go_simp
            with_reducible rfl
           rotate_left
           ·simp only [Act.put, List.setIfInBounds_toArray, List.set_cons_zero, List.set_cons_succ, i64_w, i32_w]
            rfl
           refine done_ (done_of HT_.out (by kernel_rfl)) ?_
           try go_wp2
           go_ret
           exact ⟨by first | rfl | (simp [errV_none, errV_some] <;> rfl) | (simp [*, errV_none, errV_some] <;> rfl), by repeat (first | (with_reducible first | exact HB.out | apply below_alloc | apply pw_below_drewN | apply below_drew1 | refine below_set ?_ GE193.out | refine below_set ?_ GE194.out) | exact HB.out)⟩
         ·rw [if_neg c28] at H
          exact absurd H (by simp)
        ·rw [if_neg c27] at H
         exact absurd H (by simp)
       ·rw [if_neg c26] at H
        exact absurd H (by simp)
      ·rw [if_neg c25] at H
       have c25b0 : decide (x35_2 < (l0_2.length : Int)) = false := decide_eq_false c25
       clear c25
       obtain rfl := Option.some.inj H
       go_wp2
       go_ret
       exact ⟨by first | rfl | (simp [errV_none, errV_some] <;> rfl) | (simp [*, errV_none, errV_some] <;> rfl), by repeat (first | (with_reducible first | exact HB.out | apply below_alloc | apply pw_below_drewN | apply below_drew1 | refine below_set ?_ GE193.out | refine below_set ?_ GE194.out) | exact HB.out)⟩

end Go.Proofs.YtnhnlodmkbiiiaaDoor.PPbJoin
