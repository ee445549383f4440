/- Printed by a program of this session (it drives the print of the kit, with contracts proved by hand beside): the Go functions of one law as Lean functions, and that the Go code comes to what they say. -/
import Derived.Test.YtnhnlodmkbiiiaaDoorRPScrx0
import Derived.Test.YtnhnlodmkbiiiaaDoorRPScrx1
namespace Go.Proofs.YtnhnlodmkbiiiaaDoor.PScr
open Go.RowKit Go.Proofs.YtnhnlodmkbiiiaaDoorL Go.Proofs.YtnhnlodmkbiiiaaDoorW.PrintWords Go.Proofs.YtnhnlodmkbiiiaaDoorW.PrintLast Go.Proofs.YtnhnlodmkbiiiaaDoorW.PrintMore
attribute [local go_sem] max2_int min2_int max_two min_two max_three min_three max_four min_four   -- for this text's walks alone
set_option linter.unusedVariables false
set_option linter.unusedSimpArgs false

/-! ### spec_SameFS: function 33 -/
mutual
def spec_SameFS.j0 : Nat → Bool → Int → List Int → Int → List Int → Int → Int → Int → List Int → Int → List Int → Int → Int → Option (Bool)
 | 0, _, _, _, _, _, _, _, _, _, _, _, _, _ => none
 | k + 1, x48, x110000, x110001, x110002, x110003, x110004, x110005, x111000, x111001, x111002, x111003, x111004, x111005 => if x48 = true then (some false) else (spec_SameFS.l0 k (x110003.length : Int) 0 x110000 x110001 x110002 x110003 x110004 x110005 x111000 x111001 x111002 x111003 x111004 x111005)
def spec_SameFS.l0 : Nat → Int → Int → Int → List Int → Int → List Int → Int → Int → Int → List Int → Int → List Int → Int → Int → Option (Bool)
 | 0, _, _, _, _, _, _, _, _, _, _, _, _, _, _ => none
 | k + 1, x51, x52, x110000, x110001, x110002, x110003, x110004, x110005, x111000, x111001, x111002, x111003, x111004, x111005 => if x52 < x51 then (if 0 ≤ x52 then (if x52 < (x110003.length : Int) then (if x52 < (x111003.length : Int) then (if (rd x110003 x52) = (rd x111003 x52) then (spec_SameFS.l0 k x51 (wrap64 (x52 + 1)) x110000 x110001 x110002 x110003 x110004 x110005 x111000 x111001 x111002 x111003 x111004 x111005) else (some false)) else (none)) else (none)) else (none)) else (some true)
end
def spec_SameFS.f (k : Nat) (a0_0 : Int) (l0_1 : List Int) (a0_2 : Int) (l0_3 : List Int) (a0_4 : Int) (a0_5 : Int) (a1_0 : Int) (l1_1 : List Int) (a1_2 : Int) (l1_3 : List Int) (a1_4 : Int) (a1_5 : Int) : Option (Bool) := if a0_0 = a1_0 then ((spec_SameBytes.f l0_1 l1_1).bind fun t111 => (if t111 = true then (if a0_2 = a1_2 then (if a0_4 = a1_4 then (if a0_5 = a1_5 then (spec_SameFS.j0 k ((l0_3.length : Int) != (l1_3.length : Int)) a0_0 l0_1 a0_2 l0_3 a0_4 a0_5 a1_0 l1_1 a1_2 l1_3 a1_4 a1_5) else (spec_SameFS.j0 k true a0_0 l0_1 a0_2 l0_3 a0_4 a0_5 a1_0 l1_1 a1_2 l1_3 a1_4 a1_5)) else (spec_SameFS.j0 k true a0_0 l0_1 a0_2 l0_3 a0_4 a0_5 a1_0 l1_1 a1_2 l1_3 a1_4 a1_5)) else (spec_SameFS.j0 k true a0_0 l0_1 a0_2 l0_3 a0_4 a0_5 a1_0 l1_1 a1_2 l1_3 a1_4 a1_5)) else (spec_SameFS.j0 k true a0_0 l0_1 a0_2 l0_3 a0_4 a0_5 a1_0 l1_1 a1_2 l1_3 a1_4 a1_5))) else (spec_SameFS.j0 k true a0_0 l0_1 a0_2 l0_3 a0_4 a0_5 a1_0 l1_1 a1_2 l1_3 a1_4 a1_5)
set_option maxHeartbeats 8000000 in
set_option maxRecDepth 100000 in
theorem spec_SameFS.calls (k : Nat) (a0_0 : Int) (A0_1 : Option Addr) (c0_1 : Nat) (l0_1 : List Int) (a0_2 : Int) (A0_3 : Option Addr) (c0_3 : Nat) (l0_3 : List Int) (a0_4 : Int) (a0_5 : Int) (a1_0 : Int) (A1_1 : Option Addr) (c1_1 : Nat) (l1_1 : List Int) (a1_2 : Int) (A1_3 : Option Addr) (c1_3 : Nat) (l1_3 : List Int) (a1_4 : Int) (a1_5 : Int) (r : Bool) (w : World) (hr0_1 : Kd.C (Kd.int .u8) w A0_1 l0_1.length l0_1) (hc0_1 : l0_1.length ≤ c0_1) (hr0_3 : Kd.C (Kd.int .u64) w A0_3 l0_3.length l0_3) (hc0_3 : l0_3.length ≤ c0_3) (hr1_1 : Kd.C (Kd.int .u8) w A1_1 l1_1.length l1_1) (hc1_1 : l1_1.length ≤ c1_1) (hr1_3 : Kd.C (Kd.int .u64) w A1_3 l1_3.length l1_3) (hc1_3 : l1_3.length ≤ c1_3) (h : spec_SameFS.f k a0_0 l0_1 a0_2 l0_3 a0_4 a0_5 a1_0 l1_1 a1_2 l1_3 a1_4 a1_5 = some r) :
  Calls Tryd.prog 33 #[.agg #[.int .i64 a0_0, .slice A0_1 l0_1.length c0_1, .int .u64 a0_2, .slice A0_3 l0_3.length c0_3, .int .u64 a0_4, .int .u64 a0_5], .agg #[.int .i64 a1_0, .slice A1_1 l1_1.length c1_1, .int .u64 a1_2, .slice A1_3 l1_3.length c1_3, .int .u64 a1_4, .int .u64 a1_5]] w fun e w' => e = .returned (.bool r) ∧ Below w.heap.size w w' := by
 have hu56 := Tryd.underlying56
 have HR0_1 := Aside0.mk hr0_1
 have HC0_1 := Aside0.mk hc0_1
 clear hr0_1 hc0_1
 have HR0_3 := Aside0.mk hr0_3
 have HC0_3 := Aside0.mk hc0_3
 clear hr0_3 hc0_3
 have HR1_1 := Aside0.mk hr1_1
 have HC1_1 := Aside0.mk hc1_1
 clear hr1_1 hc1_1
 have HR1_3 := Aside0.mk hr1_3
 have HC1_3 := Aside0.mk hc1_3
 clear hr1_3 hc1_3
 have HB := Aside0.mk (Below.refl w.heap.size w)
 have H : (if a0_0 = a1_0 then ((spec_SameBytes.f l0_1 l1_1).bind fun t111 => (if t111 = true then (if a0_2 = a1_2 then (if a0_4 = a1_4 then (if a0_5 = a1_5 then (spec_SameFS.j0 k ((l0_3.length : Int) != (l1_3.length : Int)) a0_0 l0_1 a0_2 l0_3 a0_4 a0_5 a1_0 l1_1 a1_2 l1_3 a1_4 a1_5) else (spec_SameFS.j0 k true a0_0 l0_1 a0_2 l0_3 a0_4 a0_5 a1_0 l1_1 a1_2 l1_3 a1_4 a1_5)) else (spec_SameFS.j0 k true a0_0 l0_1 a0_2 l0_3 a0_4 a0_5 a1_0 l1_1 a1_2 l1_3 a1_4 a1_5)) else (spec_SameFS.j0 k true a0_0 l0_1 a0_2 l0_3 a0_4 a0_5 a1_0 l1_1 a1_2 l1_3 a1_4 a1_5)) else (spec_SameFS.j0 k true a0_0 l0_1 a0_2 l0_3 a0_4 a0_5 a1_0 l1_1 a1_2 l1_3 a1_4 a1_5))) else (spec_SameFS.j0 k true a0_0 l0_1 a0_2 l0_3 a0_4 a0_5 a1_0 l1_1 a1_2 l1_3 a1_4 a1_5)) = some r := h
 clear h
 have HC3 := Aside0.mk H
 clear H
 go_enter Tryd.func33, Tryd.ntmps33
 go_upto_region 1 with (first | ((with_reducible refine gate_dst (N := 2) rfl ?_); refine box_event ?hg (N := 2) ?hd (cs := #[.int .i64 a0_0, .slice A0_1 l0_1.length c0_1, .int .u64 a0_2, .slice A0_3 l0_3.length c0_3, .int .u64 a0_4, .int .u64 a0_5]) (t := 56) ?hr ?_; (case hd => rfl); (case hg => rfl); (case hr => first | (go_simp; done) | (go_simp; rfl)); intro gb109 hg w4 hbox hb; have n0_ := Aside0.mk (below_step (by repeat (first | (with_reducible first | exact HB.out | apply below_alloc | apply pw_below_drewN | apply below_drew1) | exact HB.out)) hb); have n1_ := Aside0.mk (hbox); have n2_ := Aside0.mk ((by rw [hg]; exact (below_size (by repeat (first | (with_reducible first | exact HB.out | apply below_alloc | apply pw_below_drewN | apply below_drew1) | exact HB.out))) : w.heap.size ≤ gb109)); have n3_ := Aside0.mk ((by rw [hg]; exact (below_size (by repeat (first | (with_reducible first | exact HB.out | apply below_alloc | apply pw_below_drewN | apply below_drew1) | exact HB.out))) : w.heap.size ≤ gb109)); clear HB; have HB := n0_; have BK109 := n1_; have GW109 := n2_; have GE109 := n3_; clear n0_ n1_ n2_ n3_; clear hb hbox hg) | ((with_reducible refine gate_dst (N := 3) rfl ?_); refine box_event ?hg (N := 3) ?hd (cs := #[.int .i64 a1_0, .slice A1_1 l1_1.length c1_1, .int .u64 a1_2, .slice A1_3 l1_3.length c1_3, .int .u64 a1_4, .int .u64 a1_5]) (t := 56) ?hr ?_; (case hd => rfl); (case hg => rfl); (case hr => first | (go_simp; done) | (go_simp; rfl)); intro gb110 hg w5 hbox hb; have n0_ := Aside0.mk (blk_below (g := gb109) (o := .cells #[.int .i64 a0_0, .slice A0_1 l0_1.length c0_1, .int .u64 a0_2, .slice A0_3 l0_3.length c0_3, .int .u64 a0_4, .int .u64 a0_5] 56 (0, 0)) (by (with_reducible repeat (first | refine blk_drewN ?_ _ | refine blk_drew ?_ | refine blk_alloc ?_ _)); exact BK109.out) hb); have n1_ := Aside0.mk (below_step (by repeat (first | (with_reducible first | exact HB.out | apply below_alloc | apply pw_below_drewN | apply below_drew1 | refine below_set ?_ GE109.out) | exact HB.out)) hb); have n2_ := Aside0.mk (hbox); have n3_ := Aside0.mk ((by rw [hg]; exact (below_size (by repeat (first | (with_reducible first | exact HB.out | apply below_alloc | apply pw_below_drewN | apply below_drew1 | refine below_set ?_ GE109.out) | exact HB.out))) : w.heap.size ≤ gb110)); have n4_ := Aside0.mk ((by rw [hg]; exact (below_size (by repeat (first | (with_reducible first | exact HB.out | apply below_alloc | apply pw_below_drewN | apply below_drew1 | refine below_set ?_ GE109.out) | exact HB.out))) : w.heap.size ≤ gb110)); have n5_ := Aside0.mk ((by rw [hg]; exact Nat.ne_of_lt (blk_lt (g := gb109) (o := .cells #[.int .i64 a0_0, .slice A0_1 l0_1.length c0_1, .int .u64 a0_2, .slice A0_3 l0_3.length c0_3, .int .u64 a0_4, .int .u64 a0_5] 56 (0, 0)) (by (with_reducible repeat (first | refine blk_drewN ?_ _ | refine blk_drew ?_ | refine blk_alloc ?_ _)); exact BK109.out)) : gb109 ≠ gb110)); have n6_ := Aside0.mk ((by rw [hg]; exact Nat.ne_of_gt (blk_lt (g := gb109) (o := .cells #[.int .i64 a0_0, .slice A0_1 l0_1.length c0_1, .int .u64 a0_2, .slice A0_3 l0_3.length c0_3, .int .u64 a0_4, .int .u64 a0_5] 56 (0, 0)) (by (with_reducible repeat (first | refine blk_drewN ?_ _ | refine blk_drew ?_ | refine blk_alloc ?_ _)); exact BK109.out)) : gb110 ≠ gb109)); clear BK109; clear HB; have BK109 := n0_; have HB := n1_; have BK110 := n2_; have GW110 := n3_; have GE110 := n4_; have NB109_110 := n5_; have NB110_109 := n6_; clear n0_ n1_ n2_ n3_ n4_ n5_ n6_; clear hb hbox hg))
 repeat (go_quiet (first | ((with_reducible refine gate_dst (N := 2) rfl ?_); refine box_event ?hg (N := 2) ?hd (cs := #[.int .i64 a0_0, .slice A0_1 l0_1.length c0_1, .int .u64 a0_2, .slice A0_3 l0_3.length c0_3, .int .u64 a0_4, .int .u64 a0_5]) (t := 56) ?hr ?_; (case hd => rfl); (case hg => rfl); (case hr => first | (go_simp; done) | (go_simp; rfl)); intro gb109 hg w4 hbox hb; have n0_ := Aside0.mk (below_step (by repeat (first | (with_reducible first | exact HB.out | apply below_alloc | apply pw_below_drewN | apply below_drew1) | exact HB.out)) hb); have n1_ := Aside0.mk (hbox); have n2_ := Aside0.mk ((by rw [hg]; exact (below_size (by repeat (first | (with_reducible first | exact HB.out | apply below_alloc | apply pw_below_drewN | apply below_drew1) | exact HB.out))) : w.heap.size ≤ gb109)); have n3_ := Aside0.mk ((by rw [hg]; exact (below_size (by repeat (first | (with_reducible first | exact HB.out | apply below_alloc | apply pw_below_drewN | apply below_drew1) | exact HB.out))) : w.heap.size ≤ gb109)); clear HB; have HB := n0_; have BK109 := n1_; have GW109 := n2_; have GE109 := n3_; clear n0_ n1_ n2_ n3_; clear hb hbox hg) | ((with_reducible refine gate_dst (N := 3) rfl ?_); refine box_event ?hg (N := 3) ?hd (cs := #[.int .i64 a1_0, .slice A1_1 l1_1.length c1_1, .int .u64 a1_2, .slice A1_3 l1_3.length c1_3, .int .u64 a1_4, .int .u64 a1_5]) (t := 56) ?hr ?_; (case hd => rfl); (case hg => rfl); (case hr => first | (go_simp; done) | (go_simp; rfl)); intro gb110 hg w5 hbox hb; have n0_ := Aside0.mk (blk_below (g := gb109) (o := .cells #[.int .i64 a0_0, .slice A0_1 l0_1.length c0_1, .int .u64 a0_2, .slice A0_3 l0_3.length c0_3, .int .u64 a0_4, .int .u64 a0_5] 56 (0, 0)) (by (with_reducible repeat (first | refine blk_drewN ?_ _ | refine blk_drew ?_ | refine blk_alloc ?_ _)); exact BK109.out) hb); have n1_ := Aside0.mk (below_step (by repeat (first | (with_reducible first | exact HB.out | apply below_alloc | apply pw_below_drewN | apply below_drew1 | refine below_set ?_ GE109.out) | exact HB.out)) hb); have n2_ := Aside0.mk (hbox); have n3_ := Aside0.mk ((by rw [hg]; exact (below_size (by repeat (first | (with_reducible first | exact HB.out | apply below_alloc | apply pw_below_drewN | apply below_drew1 | refine below_set ?_ GE109.out) | exact HB.out))) : w.heap.size ≤ gb110)); have n4_ := Aside0.mk ((by rw [hg]; exact (below_size (by repeat (first | (with_reducible first | exact HB.out | apply below_alloc | apply pw_below_drewN | apply below_drew1 | refine below_set ?_ GE109.out) | exact HB.out))) : w.heap.size ≤ gb110)); have n5_ := Aside0.mk ((by rw [hg]; exact Nat.ne_of_lt (blk_lt (g := gb109) (o := .cells #[.int .i64 a0_0, .slice A0_1 l0_1.length c0_1, .int .u64 a0_2, .slice A0_3 l0_3.length c0_3, .int .u64 a0_4, .int .u64 a0_5] 56 (0, 0)) (by (with_reducible repeat (first | refine blk_drewN ?_ _ | refine blk_drew ?_ | refine blk_alloc ?_ _)); exact BK109.out)) : gb109 ≠ gb110)); have n6_ := Aside0.mk ((by rw [hg]; exact Nat.ne_of_gt (blk_lt (g := gb109) (o := .cells #[.int .i64 a0_0, .slice A0_1 l0_1.length c0_1, .int .u64 a0_2, .slice A0_3 l0_3.length c0_3, .int .u64 a0_4, .int .u64 a0_5] 56 (0, 0)) (by (with_reducible repeat (first | refine blk_drewN ?_ _ | refine blk_drew ?_ | refine blk_alloc ?_ _)); exact BK109.out)) : gb110 ≠ gb109)); clear BK109; clear HB; have BK109 := n0_; have HB := n1_; have BK110 := n2_; have GW110 := n3_; have GE110 := n4_; have NB109_110 := n5_; have NB110_109 := n6_; clear n0_ n1_ n2_ n3_ n4_ n5_ n6_; clear hb hbox hg)); go_upto_region 1 with (first | ((with_reducible refine gate_dst (N := 2) rfl ?_); refine box_event ?hg (N := 2) ?hd (cs := #[.int .i64 a0_0, .slice A0_1 l0_1.length c0_1, .int .u64 a0_2, .slice A0_3 l0_3.length c0_3, .int .u64 a0_4, .int .u64 a0_5]) (t := 56) ?hr ?_; (case hd => rfl); (case hg => rfl); (case hr => first | (go_simp; done) | (go_simp; rfl)); intro gb109 hg w4 hbox hb; have n0_ := Aside0.mk (below_step (by repeat (first | (with_reducible first | exact HB.out | apply below_alloc | apply pw_below_drewN | apply below_drew1) | exact HB.out)) hb); have n1_ := Aside0.mk (hbox); have n2_ := Aside0.mk ((by rw [hg]; exact (below_size (by repeat (first | (with_reducible first | exact HB.out | apply below_alloc | apply pw_below_drewN | apply below_drew1) | exact HB.out))) : w.heap.size ≤ gb109)); have n3_ := Aside0.mk ((by rw [hg]; exact (below_size (by repeat (first | (with_reducible first | exact HB.out | apply below_alloc | apply pw_below_drewN | apply below_drew1) | exact HB.out))) : w.heap.size ≤ gb109)); clear HB; have HB := n0_; have BK109 := n1_; have GW109 := n2_; have GE109 := n3_; clear n0_ n1_ n2_ n3_; clear hb hbox hg) | ((with_reducible refine gate_dst (N := 3) rfl ?_); refine box_event ?hg (N := 3) ?hd (cs := #[.int .i64 a1_0, .slice A1_1 l1_1.length c1_1, .int .u64 a1_2, .slice A1_3 l1_3.length c1_3, .int .u64 a1_4, .int .u64 a1_5]) (t := 56) ?hr ?_; (case hd => rfl); (case hg => rfl); (case hr => first | (go_simp; done) | (go_simp; rfl)); intro gb110 hg w5 hbox hb; have n0_ := Aside0.mk (blk_below (g := gb109) (o := .cells #[.int .i64 a0_0, .slice A0_1 l0_1.length c0_1, .int .u64 a0_2, .slice A0_3 l0_3.length c0_3, .int .u64 a0_4, .int .u64 a0_5] 56 (0, 0)) (by (with_reducible repeat (first | refine blk_drewN ?_ _ | refine blk_drew ?_ | refine blk_alloc ?_ _)); exact BK109.out) hb); have n1_ := Aside0.mk (below_step (by repeat (first | (with_reducible first | exact HB.out | apply below_alloc | apply pw_below_drewN | apply below_drew1 | refine below_set ?_ GE109.out) | exact HB.out)) hb); have n2_ := Aside0.mk (hbox); have n3_ := Aside0.mk ((by rw [hg]; exact (below_size (by repeat (first | (with_reducible first | exact HB.out | apply below_alloc | apply pw_below_drewN | apply below_drew1 | refine below_set ?_ GE109.out) | exact HB.out))) : w.heap.size ≤ gb110)); have n4_ := Aside0.mk ((by rw [hg]; exact (below_size (by repeat (first | (with_reducible first | exact HB.out | apply below_alloc | apply pw_below_drewN | apply below_drew1 | refine below_set ?_ GE109.out) | exact HB.out))) : w.heap.size ≤ gb110)); have n5_ := Aside0.mk ((by rw [hg]; exact Nat.ne_of_lt (blk_lt (g := gb109) (o := .cells #[.int .i64 a0_0, .slice A0_1 l0_1.length c0_1, .int .u64 a0_2, .slice A0_3 l0_3.length c0_3, .int .u64 a0_4, .int .u64 a0_5] 56 (0, 0)) (by (with_reducible repeat (first | refine blk_drewN ?_ _ | refine blk_drew ?_ | refine blk_alloc ?_ _)); exact BK109.out)) : gb109 ≠ gb110)); have n6_ := Aside0.mk ((by rw [hg]; exact Nat.ne_of_gt (blk_lt (g := gb109) (o := .cells #[.int .i64 a0_0, .slice A0_1 l0_1.length c0_1, .int .u64 a0_2, .slice A0_3 l0_3.length c0_3, .int .u64 a0_4, .int .u64 a0_5] 56 (0, 0)) (by (with_reducible repeat (first | refine blk_drewN ?_ _ | refine blk_drew ?_ | refine blk_alloc ?_ _)); exact BK109.out)) : gb110 ≠ gb109)); clear BK109; clear HB; have BK109 := n0_; have HB := n1_; have BK110 := n2_; have GW110 := n3_; have GE110 := n4_; have NB109_110 := n5_; have NB110_109 := n6_; clear n0_ n1_ n2_ n3_ n4_ n5_ n6_; clear hb hbox hg)))
 (try simp only [Act.put, List.setIfInBounds_toArray, List.set_cons_zero, List.set_cons_succ])
 go_cut [48] (fun v48 wc => ∃ (kq : Nat) (x48_2 : Bool), v48 = .bool x48_2 ∧ Aside0 (spec_SameFS.j0 kq x48_2 a0_0 l0_1 a0_2 l0_3 a0_4 a0_5 a1_0 l1_1 a1_2 l1_3 a1_4 a1_5 = some r) ∧ Aside0 (kq ≤ k) ∧ Aside0 (wc.heap[gb109]? = some (.cells #[.int .i64 a0_0, (.slice A0_1 l0_1.length c0_1), .int .u64 a0_2, (.slice A0_3 l0_3.length c0_3), .int .u64 a0_4, .int .u64 a0_5] 56 (0, 0))) ∧ Aside0 (wc.heap[gb110]? = some (.cells #[.int .i64 a1_0, (.slice A1_1 l1_1.length c1_1), .int .u64 a1_2, (.slice A1_3 l1_3.length c1_3), .int .u64 a1_4, .int .u64 a1_5] 56 (0, 0))) ∧ Aside0 (Below w.heap.size w wc))
 case first =>
  have H := HC3.out
  clear HC3
  by_cases c6 : a0_0 = a1_0
  ·rw [if_pos c6] at H
   have c6b0 : (a0_0 == a1_0) = true := beq_iff_eq.mpr c6
   have c6b1 : (a0_0 != a1_0) = false := bne_eq_false_iff_eq.mpr c6
   clear c6
   (first | rw [c6b0] | (simp only [i64_w, i32_w]; rw [c6b0]) | skip)
   replace H := Option.bind_eq_some_iff.mp H
   obtain ⟨t111, A70, H⟩ := H
   replace H : (if t111 = true then (if a0_2 = a1_2 then (if a0_4 = a1_4 then (if a0_5 = a1_5 then (spec_SameFS.j0 k ((l0_3.length : Int) != (l1_3.length : Int)) a0_0 l0_1 a0_2 l0_3 a0_4 a0_5 a1_0 l1_1 a1_2 l1_3 a1_4 a1_5) else (spec_SameFS.j0 k true a0_0 l0_1 a0_2 l0_3 a0_4 a0_5 a1_0 l1_1 a1_2 l1_3 a1_4 a1_5)) else (spec_SameFS.j0 k true a0_0 l0_1 a0_2 l0_3 a0_4 a0_5 a1_0 l1_1 a1_2 l1_3 a1_4 a1_5)) else (spec_SameFS.j0 k true a0_0 l0_1 a0_2 l0_3 a0_4 a0_5 a1_0 l1_1 a1_2 l1_3 a1_4 a1_5)) else (spec_SameFS.j0 k true a0_0 l0_1 a0_2 l0_3 a0_4 a0_5 a1_0 l1_1 a1_2 l1_3 a1_4 a1_5)) = some r := H
   have A7 := Aside0.mk A70
   clear A70
   by_cases c8 : t111 = true
   ·subst c8
    have H1 : (if a0_2 = a1_2 then (if a0_4 = a1_4 then (if a0_5 = a1_5 then (spec_SameFS.j0 k ((l0_3.length : Int) != (l1_3.length : Int)) a0_0 l0_1 a0_2 l0_3 a0_4 a0_5 a1_0 l1_1 a1_2 l1_3 a1_4 a1_5) else (spec_SameFS.j0 k true a0_0 l0_1 a0_2 l0_3 a0_4 a0_5 a1_0 l1_1 a1_2 l1_3 a1_4 a1_5)) else (spec_SameFS.j0 k true a0_0 l0_1 a0_2 l0_3 a0_4 a0_5 a1_0 l1_1 a1_2 l1_3 a1_4 a1_5)) else (spec_SameFS.j0 k true a0_0 l0_1 a0_2 l0_3 a0_4 a0_5 a1_0 l1_1 a1_2 l1_3 a1_4 a1_5)) = some r := by rw [if_pos rfl] at H; exact H
    clear H
    have H := H1
    clear H1
    by_cases c9 : a0_2 = a1_2
    ·rw [if_pos c9] at H
     have c9b0 : (a0_2 == a1_2) = true := beq_iff_eq.mpr c9
     have c9b1 : (a0_2 != a1_2) = false := bne_eq_false_iff_eq.mpr c9
     clear c9
     by_cases c10 : a0_4 = a1_4
     ·rw [if_pos c10] at H
      have c10b0 : (a0_4 == a1_4) = true := beq_iff_eq.mpr c10
      have c10b1 : (a0_4 != a1_4) = false := bne_eq_false_iff_eq.mpr c10
      clear c10
      by_cases c11 : a0_5 = a1_5
      ·rw [if_pos c11] at H
       have c11b0 : (a0_5 == a1_5) = true := beq_iff_eq.mpr c11
       have c11b1 : (a0_5 != a1_5) = false := bne_eq_false_iff_eq.mpr c11
       clear c11
       have H' := Aside0.mk H
       clear H
       have hnb12 := NB109_110.out
       have hnc12 := NB110_109.out
       have hcz13_0 : w5.cell? ⟨gb109, 0, none⟩ = some (.int .i64 a0_0) := (blk_cell BK109.out 0).trans rfl
       have hcz13_1 : w5.cell? ⟨gb109, 1, none⟩ = some (.slice A0_1 l0_1.length c0_1) := (blk_cell BK109.out 1).trans rfl
       have hcz13_2 : w5.cell? ⟨gb109, 2, none⟩ = some (.int .u64 a0_2) := (blk_cell BK109.out 2).trans rfl
       have hcz13_3 : w5.cell? ⟨gb109, 3, none⟩ = some (.slice A0_3 l0_3.length c0_3) := (blk_cell BK109.out 3).trans rfl
       have hcz13_4 : w5.cell? ⟨gb109, 4, none⟩ = some (.int .u64 a0_4) := (blk_cell BK109.out 4).trans rfl
       have hcz13_5 : w5.cell? ⟨gb109, 5, none⟩ = some (.int .u64 a0_5) := (blk_cell BK109.out 5).trans rfl
       have hfz13_0 := blk_frozen BK109.out 0
       have hfz13_1 := blk_frozen BK109.out 1
       have hfz13_2 := blk_frozen BK109.out 2
       have hfz13_3 := blk_frozen BK109.out 3
       have hfz13_4 := blk_frozen BK109.out 4
       have hfz13_5 := blk_frozen BK109.out 5
       have hcz14_0 : w5.cell? ⟨gb110, 0, none⟩ = some (.int .i64 a1_0) := (blk_cell BK110.out 0).trans rfl
       have hcz14_1 : w5.cell? ⟨gb110, 1, none⟩ = some (.slice A1_1 l1_1.length c1_1) := (blk_cell BK110.out 1).trans rfl
       have hcz14_2 : w5.cell? ⟨gb110, 2, none⟩ = some (.int .u64 a1_2) := (blk_cell BK110.out 2).trans rfl
       have hcz14_3 : w5.cell? ⟨gb110, 3, none⟩ = some (.slice A1_3 l1_3.length c1_3) := (blk_cell BK110.out 3).trans rfl
       have hcz14_4 : w5.cell? ⟨gb110, 4, none⟩ = some (.int .u64 a1_4) := (blk_cell BK110.out 4).trans rfl
       have hcz14_5 : w5.cell? ⟨gb110, 5, none⟩ = some (.int .u64 a1_5) := (blk_cell BK110.out 5).trans rfl
       have hfz14_0 := blk_frozen BK110.out 0
       have hfz14_1 := blk_frozen BK110.out 1
       have hfz14_2 := blk_frozen BK110.out 2
       have hfz14_3 := blk_frozen BK110.out 3
       have hfz14_4 := blk_frozen BK110.out 4
       have hfz14_5 := blk_frozen BK110.out 5
       go_wp2_with (first | (go_at_call 20; (with_reducible refine (spec_SameBytes.calls _ _ l0_1 _ _ l1_1 true _ ?side1 ?side2 ?side3 ?side4 A7.out).mono ?_); (case side1 => repeat (first | exact (Kd.C_below HR0_1.out HB.out) | (with_reducible refine Kd.C_alloc ?_ _) | (with_reducible refine Kd.C_drewN ?_ _) | (with_reducible refine Kd.C_drew ?_))); (case side2 => exact HC0_1.out); (case side3 => repeat (first | exact (Kd.C_below HR1_1.out HB.out) | (with_reducible refine Kd.C_alloc ?_ _) | (with_reducible refine Kd.C_drewN ?_ _) | (with_reducible refine Kd.C_drew ?_))); (case side4 => exact HC1_1.out); rintro e w' ⟨rfl, ⟨nd, rfl⟩⟩; (try first | exact ⟨rfl, _, World.drewN_drewN _ _ _⟩ | exact ⟨rfl, _, Eq.trans (World.drewN_drewN _ _ _) (congrArg (World.drewN _) (Nat.add_assoc _ _ _))⟩)))
       repeat (go_quiet (first | (go_at_call 20; (with_reducible refine (spec_SameBytes.calls _ _ l0_1 _ _ l1_1 true _ ?side1 ?side2 ?side3 ?side4 A7.out).mono ?_); (case side1 => repeat (first | exact (Kd.C_below HR0_1.out HB.out) | (with_reducible refine Kd.C_alloc ?_ _) | (with_reducible refine Kd.C_drewN ?_ _) | (with_reducible refine Kd.C_drew ?_))); (case side2 => exact HC0_1.out); (case side3 => repeat (first | exact (Kd.C_below HR1_1.out HB.out) | (with_reducible refine Kd.C_alloc ?_ _) | (with_reducible refine Kd.C_drewN ?_ _) | (with_reducible refine Kd.C_drew ?_))); (case side4 => exact HC1_1.out); rintro e w' ⟨rfl, ⟨nd, rfl⟩⟩; (try first | exact ⟨rfl, _, World.drewN_drewN _ _ _⟩ | exact ⟨rfl, _, Eq.trans (World.drewN_drewN _ _ _) (congrArg (World.drewN _) (Nat.add_assoc _ _ _))⟩))); try go_wp2_with (first | (go_at_call 20; (with_reducible refine (spec_SameBytes.calls _ _ l0_1 _ _ l1_1 true _ ?side1 ?side2 ?side3 ?side4 A7.out).mono ?_); (case side1 => repeat (first | exact (Kd.C_below HR0_1.out HB.out) | (with_reducible refine Kd.C_alloc ?_ _) | (with_reducible refine Kd.C_drewN ?_ _) | (with_reducible refine Kd.C_drew ?_))); (case side2 => exact HC0_1.out); (case side3 => repeat (first | exact (Kd.C_below HR1_1.out HB.out) | (with_reducible refine Kd.C_alloc ?_ _) | (with_reducible refine Kd.C_drewN ?_ _) | (with_reducible refine Kd.C_drew ?_))); (case side4 => exact HC1_1.out); rintro e w' ⟨rfl, ⟨nd, rfl⟩⟩; (try first | exact ⟨rfl, _, World.drewN_drewN _ _ _⟩ | exact ⟨rfl, _, Eq.trans (World.drewN_drewN _ _ _) (congrArg (World.drewN _) (Nat.add_assoc _ _ _))⟩))))
       go_meet
       case rel => exact ⟨_, (((l0_3.length : Int) != (l1_3.length : Int))), (by first | rfl | (simp; done) | (simp [*]; done)), H', ⟨by first | omega | exact Nat.le_refl _⟩, ⟨by (with_reducible repeat (first | refine blk_drewN ?_ _ | refine blk_drew ?_ | refine blk_alloc ?_ _)); exact BK109.out⟩, ⟨by (with_reducible repeat (first | refine blk_drewN ?_ _ | refine blk_drew ?_ | refine blk_alloc ?_ _)); exact BK110.out⟩, ⟨by repeat (first | (with_reducible first | exact HB.out | apply below_alloc | apply pw_below_drewN | apply below_drew1 | refine below_set ?_ GE109.out | refine below_set ?_ GE110.out) | exact HB.out)⟩⟩
      ·rw [if_neg c11] at H
       have c11b0 : (a0_5 == a1_5) = false := beq_eq_false_iff_ne.mpr c11
       have c11b1 : (a0_5 != a1_5) = true := bne_iff_ne.mpr c11
       have H' := Aside0.mk H
       clear H
       have hnb15 := NB109_110.out
       have hnc15 := NB110_109.out
       have hcz16_0 : w5.cell? ⟨gb109, 0, none⟩ = some (.int .i64 a0_0) := (blk_cell BK109.out 0).trans rfl
       have hcz16_1 : w5.cell? ⟨gb109, 1, none⟩ = some (.slice A0_1 l0_1.length c0_1) := (blk_cell BK109.out 1).trans rfl
       have hcz16_2 : w5.cell? ⟨gb109, 2, none⟩ = some (.int .u64 a0_2) := (blk_cell BK109.out 2).trans rfl
       have hcz16_3 : w5.cell? ⟨gb109, 3, none⟩ = some (.slice A0_3 l0_3.length c0_3) := (blk_cell BK109.out 3).trans rfl
       have hcz16_4 : w5.cell? ⟨gb109, 4, none⟩ = some (.int .u64 a0_4) := (blk_cell BK109.out 4).trans rfl
       have hcz16_5 : w5.cell? ⟨gb109, 5, none⟩ = some (.int .u64 a0_5) := (blk_cell BK109.out 5).trans rfl
       have hfz16_0 := blk_frozen BK109.out 0
       have hfz16_1 := blk_frozen BK109.out 1
       have hfz16_2 := blk_frozen BK109.out 2
       have hfz16_3 := blk_frozen BK109.out 3
       have hfz16_4 := blk_frozen BK109.out 4
       have hfz16_5 := blk_frozen BK109.out 5
       have hcz17_0 : w5.cell? ⟨gb110, 0, none⟩ = some (.int .i64 a1_0) := (blk_cell BK110.out 0).trans rfl
       have hcz17_1 : w5.cell? ⟨gb110, 1, none⟩ = some (.slice A1_1 l1_1.length c1_1) := (blk_cell BK110.out 1).trans rfl
       have hcz17_2 : w5.cell? ⟨gb110, 2, none⟩ = some (.int .u64 a1_2) := (blk_cell BK110.out 2).trans rfl
       have hcz17_3 : w5.cell? ⟨gb110, 3, none⟩ = some (.slice A1_3 l1_3.length c1_3) := (blk_cell BK110.out 3).trans rfl
       have hcz17_4 : w5.cell? ⟨gb110, 4, none⟩ = some (.int .u64 a1_4) := (blk_cell BK110.out 4).trans rfl
       have hcz17_5 : w5.cell? ⟨gb110, 5, none⟩ = some (.int .u64 a1_5) := (blk_cell BK110.out 5).trans rfl
       have hfz17_0 := blk_frozen BK110.out 0
       have hfz17_1 := blk_frozen BK110.out 1
       have hfz17_2 := blk_frozen BK110.out 2
       have hfz17_3 := blk_frozen BK110.out 3
       have hfz17_4 := blk_frozen BK110.out 4
       have hfz17_5 := blk_frozen BK110.out 5
       go_wp2_with (first | (go_at_call 20; (with_reducible refine (spec_SameBytes.calls _ _ l0_1 _ _ l1_1 true _ ?side1 ?side2 ?side3 ?side4 A7.out).mono ?_); (case side1 => repeat (first | exact (Kd.C_below HR0_1.out HB.out) | (with_reducible refine Kd.C_alloc ?_ _) | (with_reducible refine Kd.C_drewN ?_ _) | (with_reducible refine Kd.C_drew ?_))); (case side2 => exact HC0_1.out); (case side3 => repeat (first | exact (Kd.C_below HR1_1.out HB.out) | (with_reducible refine Kd.C_alloc ?_ _) | (with_reducible refine Kd.C_drewN ?_ _) | (with_reducible refine Kd.C_drew ?_))); (case side4 => exact HC1_1.out); rintro e w' ⟨rfl, ⟨nd, rfl⟩⟩; (try first | exact ⟨rfl, _, World.drewN_drewN _ _ _⟩ | exact ⟨rfl, _, Eq.trans (World.drewN_drewN _ _ _) (congrArg (World.drewN _) (Nat.add_assoc _ _ _))⟩)))
       repeat (go_quiet (first | (go_at_call 20; (with_reducible refine (spec_SameBytes.calls _ _ l0_1 _ _ l1_1 true _ ?side1 ?side2 ?side3 ?side4 A7.out).mono ?_); (case side1 => repeat (first | exact (Kd.C_below HR0_1.out HB.out) | (with_reducible refine Kd.C_alloc ?_ _) | (with_reducible refine Kd.C_drewN ?_ _) | (with_reducible refine Kd.C_drew ?_))); (case side2 => exact HC0_1.out); (case side3 => repeat (first | exact (Kd.C_below HR1_1.out HB.out) | (with_reducible refine Kd.C_alloc ?_ _) | (with_reducible refine Kd.C_drewN ?_ _) | (with_reducible refine Kd.C_drew ?_))); (case side4 => exact HC1_1.out); rintro e w' ⟨rfl, ⟨nd, rfl⟩⟩; (try first | exact ⟨rfl, _, World.drewN_drewN _ _ _⟩ | exact ⟨rfl, _, Eq.trans (World.drewN_drewN _ _ _) (congrArg (World.drewN _) (Nat.add_assoc _ _ _))⟩))); try go_wp2_with (first | (go_at_call 20; (with_reducible refine (spec_SameBytes.calls _ _ l0_1 _ _ l1_1 true _ ?side1 ?side2 ?side3 ?side4 A7.out).mono ?_); (case side1 => repeat (first | exact (Kd.C_below HR0_1.out HB.out) | (with_reducible refine Kd.C_alloc ?_ _) | (with_reducible refine Kd.C_drewN ?_ _) | (with_reducible refine Kd.C_drew ?_))); (case side2 => exact HC0_1.out); (case side3 => repeat (first | exact (Kd.C_below HR1_1.out HB.out) | (with_reducible refine Kd.C_alloc ?_ _) | (with_reducible refine Kd.C_drewN ?_ _) | (with_reducible refine Kd.C_drew ?_))); (case side4 => exact HC1_1.out); rintro e w' ⟨rfl, ⟨nd, rfl⟩⟩; (try first | exact ⟨rfl, _, World.drewN_drewN _ _ _⟩ | exact ⟨rfl, _, Eq.trans (World.drewN_drewN _ _ _) (congrArg (World.drewN _) (Nat.add_assoc _ _ _))⟩))))
       go_meet
       case rel => exact ⟨_, (true), (by first | rfl | (simp; done) | (simp [*]; done)), H', ⟨by first | omega | exact Nat.le_refl _⟩, ⟨by (with_reducible repeat (first | refine blk_drewN ?_ _ | refine blk_drew ?_ | refine blk_alloc ?_ _)); exact BK109.out⟩, ⟨by (with_reducible repeat (first | refine blk_drewN ?_ _ | refine blk_drew ?_ | refine blk_alloc ?_ _)); exact BK110.out⟩, ⟨by repeat (first | (with_reducible first | exact HB.out | apply below_alloc | apply pw_below_drewN | apply below_drew1 | refine below_set ?_ GE109.out | refine below_set ?_ GE110.out) | exact HB.out)⟩⟩
     ·rw [if_neg c10] at H
      have c10b0 : (a0_4 == a1_4) = false := beq_eq_false_iff_ne.mpr c10
      have c10b1 : (a0_4 != a1_4) = true := bne_iff_ne.mpr c10
      have H' := Aside0.mk H
      clear H
      have hnb18 := NB109_110.out
      have hnc18 := NB110_109.out
      have hcz19_0 : w5.cell? ⟨gb109, 0, none⟩ = some (.int .i64 a0_0) := (blk_cell BK109.out 0).trans rfl
      have hcz19_1 : w5.cell? ⟨gb109, 1, none⟩ = some (.slice A0_1 l0_1.length c0_1) := (blk_cell BK109.out 1).trans rfl
      have hcz19_2 : w5.cell? ⟨gb109, 2, none⟩ = some (.int .u64 a0_2) := (blk_cell BK109.out 2).trans rfl
      have hcz19_3 : w5.cell? ⟨gb109, 3, none⟩ = some (.slice A0_3 l0_3.length c0_3) := (blk_cell BK109.out 3).trans rfl
      have hcz19_4 : w5.cell? ⟨gb109, 4, none⟩ = some (.int .u64 a0_4) := (blk_cell BK109.out 4).trans rfl
      have hcz19_5 : w5.cell? ⟨gb109, 5, none⟩ = some (.int .u64 a0_5) := (blk_cell BK109.out 5).trans rfl
      have hfz19_0 := blk_frozen BK109.out 0
      have hfz19_1 := blk_frozen BK109.out 1
      have hfz19_2 := blk_frozen BK109.out 2
      have hfz19_3 := blk_frozen BK109.out 3
      have hfz19_4 := blk_frozen BK109.out 4
      have hfz19_5 := blk_frozen BK109.out 5
      have hcz20_0 : w5.cell? ⟨gb110, 0, none⟩ = some (.int .i64 a1_0) := (blk_cell BK110.out 0).trans rfl
      have hcz20_1 : w5.cell? ⟨gb110, 1, none⟩ = some (.slice A1_1 l1_1.length c1_1) := (blk_cell BK110.out 1).trans rfl
      have hcz20_2 : w5.cell? ⟨gb110, 2, none⟩ = some (.int .u64 a1_2) := (blk_cell BK110.out 2).trans rfl
      have hcz20_3 : w5.cell? ⟨gb110, 3, none⟩ = some (.slice A1_3 l1_3.length c1_3) := (blk_cell BK110.out 3).trans rfl
      have hcz20_4 : w5.cell? ⟨gb110, 4, none⟩ = some (.int .u64 a1_4) := (blk_cell BK110.out 4).trans rfl
      have hcz20_5 : w5.cell? ⟨gb110, 5, none⟩ = some (.int .u64 a1_5) := (blk_cell BK110.out 5).trans rfl
      have hfz20_0 := blk_frozen BK110.out 0
      have hfz20_1 := blk_frozen BK110.out 1
      have hfz20_2 := blk_frozen BK110.out 2
      have hfz20_3 := blk_frozen BK110.out 3
      have hfz20_4 := blk_frozen BK110.out 4
      have hfz20_5 := blk_frozen BK110.out 5
      go_wp2_with (first | (go_at_call 20; (with_reducible refine (spec_SameBytes.calls _ _ l0_1 _ _ l1_1 true _ ?side1 ?side2 ?side3 ?side4 A7.out).mono ?_); (case side1 => repeat (first | exact (Kd.C_below HR0_1.out HB.out) | (with_reducible refine Kd.C_alloc ?_ _) | (with_reducible refine Kd.C_drewN ?_ _) | (with_reducible refine Kd.C_drew ?_))); (case side2 => exact HC0_1.out); (case side3 => repeat (first | exact (Kd.C_below HR1_1.out HB.out) | (with_reducible refine Kd.C_alloc ?_ _) | (with_reducible refine Kd.C_drewN ?_ _) | (with_reducible refine Kd.C_drew ?_))); (case side4 => exact HC1_1.out); rintro e w' ⟨rfl, ⟨nd, rfl⟩⟩; (try first | exact ⟨rfl, _, World.drewN_drewN _ _ _⟩ | exact ⟨rfl, _, Eq.trans (World.drewN_drewN _ _ _) (congrArg (World.drewN _) (Nat.add_assoc _ _ _))⟩)))
      repeat (go_quiet (first | (go_at_call 20; (with_reducible refine (spec_SameBytes.calls _ _ l0_1 _ _ l1_1 true _ ?side1 ?side2 ?side3 ?side4 A7.out).mono ?_); (case side1 => repeat (first | exact (Kd.C_below HR0_1.out HB.out) | (with_reducible refine Kd.C_alloc ?_ _) | (with_reducible refine Kd.C_drewN ?_ _) | (with_reducible refine Kd.C_drew ?_))); (case side2 => exact HC0_1.out); (case side3 => repeat (first | exact (Kd.C_below HR1_1.out HB.out) | (with_reducible refine Kd.C_alloc ?_ _) | (with_reducible refine Kd.C_drewN ?_ _) | (with_reducible refine Kd.C_drew ?_))); (case side4 => exact HC1_1.out); rintro e w' ⟨rfl, ⟨nd, rfl⟩⟩; (try first | exact ⟨rfl, _, World.drewN_drewN _ _ _⟩ | exact ⟨rfl, _, Eq.trans (World.drewN_drewN _ _ _) (congrArg (World.drewN _) (Nat.add_assoc _ _ _))⟩))); try go_wp2_with (first | (go_at_call 20; (with_reducible refine (spec_SameBytes.calls _ _ l0_1 _ _ l1_1 true _ ?side1 ?side2 ?side3 ?side4 A7.out).mono ?_); (case side1 => repeat (first | exact (Kd.C_below HR0_1.out HB.out) | (with_reducible refine Kd.C_alloc ?_ _) | (with_reducible refine Kd.C_drewN ?_ _) | (with_reducible refine Kd.C_drew ?_))); (case side2 => exact HC0_1.out); (case side3 => repeat (first | exact (Kd.C_below HR1_1.out HB.out) | (with_reducible refine Kd.C_alloc ?_ _) | (with_reducible refine Kd.C_drewN ?_ _) | (with_reducible refine Kd.C_drew ?_))); (case side4 => exact HC1_1.out); rintro e w' ⟨rfl, ⟨nd, rfl⟩⟩; (try first | exact ⟨rfl, _, World.drewN_drewN _ _ _⟩ | exact ⟨rfl, _, Eq.trans (World.drewN_drewN _ _ _) (congrArg (World.drewN _) (Nat.add_assoc _ _ _))⟩))))
      go_meet
      case rel => exact ⟨_, (true), (by first | rfl | (simp; done) | (simp [*]; done)), H', ⟨by first | omega | exact Nat.le_refl _⟩, ⟨by (with_reducible repeat (first | refine blk_drewN ?_ _ | refine blk_drew ?_ | refine blk_alloc ?_ _)); exact BK109.out⟩, ⟨by (with_reducible repeat (first | refine blk_drewN ?_ _ | refine blk_drew ?_ | refine blk_alloc ?_ _)); exact BK110.out⟩, ⟨by repeat (first | (with_reducible first | exact HB.out | apply below_alloc | apply pw_below_drewN | apply below_drew1 | refine below_set ?_ GE109.out | refine below_set ?_ GE110.out) | exact HB.out)⟩⟩
    ·rw [if_neg c9] at H
     have c9b0 : (a0_2 == a1_2) = false := beq_eq_false_iff_ne.mpr c9
     have c9b1 : (a0_2 != a1_2) = true := bne_iff_ne.mpr c9
     have H' := Aside0.mk H
     clear H
     have hnb21 := NB109_110.out
     have hnc21 := NB110_109.out
     have hcz22_0 : w5.cell? ⟨gb109, 0, none⟩ = some (.int .i64 a0_0) := (blk_cell BK109.out 0).trans rfl
     have hcz22_1 : w5.cell? ⟨gb109, 1, none⟩ = some (.slice A0_1 l0_1.length c0_1) := (blk_cell BK109.out 1).trans rfl
     have hcz22_2 : w5.cell? ⟨gb109, 2, none⟩ = some (.int .u64 a0_2) := (blk_cell BK109.out 2).trans rfl
     have hcz22_3 : w5.cell? ⟨gb109, 3, none⟩ = some (.slice A0_3 l0_3.length c0_3) := (blk_cell BK109.out 3).trans rfl
     have hcz22_4 : w5.cell? ⟨gb109, 4, none⟩ = some (.int .u64 a0_4) := (blk_cell BK109.out 4).trans rfl
     have hcz22_5 : w5.cell? ⟨gb109, 5, none⟩ = some (.int .u64 a0_5) := (blk_cell BK109.out 5).trans rfl
     have hfz22_0 := blk_frozen BK109.out 0
     have hfz22_1 := blk_frozen BK109.out 1
     have hfz22_2 := blk_frozen BK109.out 2
     have hfz22_3 := blk_frozen BK109.out 3
     have hfz22_4 := blk_frozen BK109.out 4
     have hfz22_5 := blk_frozen BK109.out 5
     have hcz23_0 : w5.cell? ⟨gb110, 0, none⟩ = some (.int .i64 a1_0) := (blk_cell BK110.out 0).trans rfl
     have hcz23_1 : w5.cell? ⟨gb110, 1, none⟩ = some (.slice A1_1 l1_1.length c1_1) := (blk_cell BK110.out 1).trans rfl
     have hcz23_2 : w5.cell? ⟨gb110, 2, none⟩ = some (.int .u64 a1_2) := (blk_cell BK110.out 2).trans rfl
     have hcz23_3 : w5.cell? ⟨gb110, 3, none⟩ = some (.slice A1_3 l1_3.length c1_3) := (blk_cell BK110.out 3).trans rfl
     have hcz23_4 : w5.cell? ⟨gb110, 4, none⟩ = some (.int .u64 a1_4) := (blk_cell BK110.out 4).trans rfl
     have hcz23_5 : w5.cell? ⟨gb110, 5, none⟩ = some (.int .u64 a1_5) := (blk_cell BK110.out 5).trans rfl
     have hfz23_0 := blk_frozen BK110.out 0
     have hfz23_1 := blk_frozen BK110.out 1
     have hfz23_2 := blk_frozen BK110.out 2
     have hfz23_3 := blk_frozen BK110.out 3
     have hfz23_4 := blk_frozen BK110.out 4
     have hfz23_5 := blk_frozen BK110.out 5
     go_wp2_with (first | (go_at_call 20; (with_reducible refine (spec_SameBytes.calls _ _ l0_1 _ _ l1_1 true _ ?side1 ?side2 ?side3 ?side4 A7.out).mono ?_); (case side1 => repeat (first | exact (Kd.C_below HR0_1.out HB.out) | (with_reducible refine Kd.C_alloc ?_ _) | (with_reducible refine Kd.C_drewN ?_ _) | (with_reducible refine Kd.C_drew ?_))); (case side2 => exact HC0_1.out); (case side3 => repeat (first | exact (Kd.C_below HR1_1.out HB.out) | (with_reducible refine Kd.C_alloc ?_ _) | (with_reducible refine Kd.C_drewN ?_ _) | (with_reducible refine Kd.C_drew ?_))); (case side4 => exact HC1_1.out); rintro e w' ⟨rfl, ⟨nd, rfl⟩⟩; (try first | exact ⟨rfl, _, World.drewN_drewN _ _ _⟩ | exact ⟨rfl, _, Eq.trans (World.drewN_drewN _ _ _) (congrArg (World.drewN _) (Nat.add_assoc _ _ _))⟩)))
     repeat (go_quiet (first | (go_at_call 20; (with_reducible refine (spec_SameBytes.calls _ _ l0_1 _ _ l1_1 true _ ?side1 ?side2 ?side3 ?side4 A7.out).mono ?_); (case side1 => repeat (first | exact (Kd.C_below HR0_1.out HB.out) | (with_reducible refine Kd.C_alloc ?_ _) | (with_reducible refine Kd.C_drewN ?_ _) | (with_reducible refine Kd.C_drew ?_))); (case side2 => exact HC0_1.out); (case side3 => repeat (first | exact (Kd.C_below HR1_1.out HB.out) | (with_reducible refine Kd.C_alloc ?_ _) | (with_reducible refine Kd.C_drewN ?_ _) | (with_reducible refine Kd.C_drew ?_))); (case side4 => exact HC1_1.out); rintro e w' ⟨rfl, ⟨nd, rfl⟩⟩; (try first | exact ⟨rfl, _, World.drewN_drewN _ _ _⟩ | exact ⟨rfl, _, Eq.trans (World.drewN_drewN _ _ _) (congrArg (World.drewN _) (Nat.add_assoc _ _ _))⟩))); try go_wp2_with (first | (go_at_call 20; (with_reducible refine (spec_SameBytes.calls _ _ l0_1 _ _ l1_1 true _ ?side1 ?side2 ?side3 ?side4 A7.out).mono ?_); (case side1 => repeat (first | exact (Kd.C_below HR0_1.out HB.out) | (with_reducible refine Kd.C_alloc ?_ _) | (with_reducible refine Kd.C_drewN ?_ _) | (with_reducible refine Kd.C_drew ?_))); (case side2 => exact HC0_1.out); (case side3 => repeat (first | exact (Kd.C_below HR1_1.out HB.out) | (with_reducible refine Kd.C_alloc ?_ _) | (with_reducible refine Kd.C_drewN ?_ _) | (with_reducible refine Kd.C_drew ?_))); (case side4 => exact HC1_1.out); rintro e w' ⟨rfl, ⟨nd, rfl⟩⟩; (try first | exact ⟨rfl, _, World.drewN_drewN _ _ _⟩ | exact ⟨rfl, _, Eq.trans (World.drewN_drewN _ _ _) (congrArg (World.drewN _) (Nat.add_assoc _ _ _))⟩))))
     go_meet
     case rel => exact ⟨_, (true), (by first | rfl | (simp; done) | (simp [*]; done)), H', ⟨by first | omega | exact Nat.le_refl _⟩, ⟨by (with_reducible repeat (first | refine blk_drewN ?_ _ | refine blk_drew ?_ | refine blk_alloc ?_ _)); exact BK109.out⟩, ⟨by (with_reducible repeat (first | refine blk_drewN ?_ _ | refine blk_drew ?_ | refine blk_alloc ?_ _)); exact BK110.out⟩, ⟨by repeat (first | (with_reducible first | exact HB.out | apply below_alloc | apply pw_below_drewN | apply below_drew1 | refine below_set ?_ GE109.out | refine below_set ?_ GE110.out) | exact HB.out)⟩⟩
   ·replace c8 := Bool.eq_false_iff.mpr c8
    subst c8
    have H1 : (spec_SameFS.j0 k true a0_0 l0_1 a0_2 l0_3 a0_4 a0_5 a1_0 l1_1 a1_2 l1_3 a1_4 a1_5) = some r := by rw [if_neg (show ¬ (false = true) by decide)] at H; exact H
    clear H
    have H := H1
    clear H1
    have H' := Aside0.mk H
    clear H
    have hnb24 := NB109_110.out
    have hnc24 := NB110_109.out
    have hcz25_0 : w5.cell? ⟨gb109, 0, none⟩ = some (.int .i64 a0_0) := (blk_cell BK109.out 0).trans rfl
    have hcz25_1 : w5.cell? ⟨gb109, 1, none⟩ = some (.slice A0_1 l0_1.length c0_1) := (blk_cell BK109.out 1).trans rfl
    have hcz25_2 : w5.cell? ⟨gb109, 2, none⟩ = some (.int .u64 a0_2) := (blk_cell BK109.out 2).trans rfl
    have hcz25_3 : w5.cell? ⟨gb109, 3, none⟩ = some (.slice A0_3 l0_3.length c0_3) := (blk_cell BK109.out 3).trans rfl
    have hcz25_4 : w5.cell? ⟨gb109, 4, none⟩ = some (.int .u64 a0_4) := (blk_cell BK109.out 4).trans rfl
    have hcz25_5 : w5.cell? ⟨gb109, 5, none⟩ = some (.int .u64 a0_5) := (blk_cell BK109.out 5).trans rfl
    have hfz25_0 := blk_frozen BK109.out 0
    have hfz25_1 := blk_frozen BK109.out 1
    have hfz25_2 := blk_frozen BK109.out 2
    have hfz25_3 := blk_frozen BK109.out 3
    have hfz25_4 := blk_frozen BK109.out 4
    have hfz25_5 := blk_frozen BK109.out 5
    have hcz26_0 : w5.cell? ⟨gb110, 0, none⟩ = some (.int .i64 a1_0) := (blk_cell BK110.out 0).trans rfl
    have hcz26_1 : w5.cell? ⟨gb110, 1, none⟩ = some (.slice A1_1 l1_1.length c1_1) := (blk_cell BK110.out 1).trans rfl
    have hcz26_2 : w5.cell? ⟨gb110, 2, none⟩ = some (.int .u64 a1_2) := (blk_cell BK110.out 2).trans rfl
    have hcz26_3 : w5.cell? ⟨gb110, 3, none⟩ = some (.slice A1_3 l1_3.length c1_3) := (blk_cell BK110.out 3).trans rfl
    have hcz26_4 : w5.cell? ⟨gb110, 4, none⟩ = some (.int .u64 a1_4) := (blk_cell BK110.out 4).trans rfl
    have hcz26_5 : w5.cell? ⟨gb110, 5, none⟩ = some (.int .u64 a1_5) := (blk_cell BK110.out 5).trans rfl
    have hfz26_0 := blk_frozen BK110.out 0
    have hfz26_1 := blk_frozen BK110.out 1
    have hfz26_2 := blk_frozen BK110.out 2
    have hfz26_3 := blk_frozen BK110.out 3
    have hfz26_4 := blk_frozen BK110.out 4
    have hfz26_5 := blk_frozen BK110.out 5
    go_wp2_with (first | (go_at_call 20; (with_reducible refine (spec_SameBytes.calls _ _ l0_1 _ _ l1_1 false _ ?side1 ?side2 ?side3 ?side4 A7.out).mono ?_); (case side1 => repeat (first | exact (Kd.C_below HR0_1.out HB.out) | (with_reducible refine Kd.C_alloc ?_ _) | (with_reducible refine Kd.C_drewN ?_ _) | (with_reducible refine Kd.C_drew ?_))); (case side2 => exact HC0_1.out); (case side3 => repeat (first | exact (Kd.C_below HR1_1.out HB.out) | (with_reducible refine Kd.C_alloc ?_ _) | (with_reducible refine Kd.C_drewN ?_ _) | (with_reducible refine Kd.C_drew ?_))); (case side4 => exact HC1_1.out); rintro e w' ⟨rfl, ⟨nd, rfl⟩⟩; (try first | exact ⟨rfl, _, World.drewN_drewN _ _ _⟩ | exact ⟨rfl, _, Eq.trans (World.drewN_drewN _ _ _) (congrArg (World.drewN _) (Nat.add_assoc _ _ _))⟩)))
    repeat (go_quiet (first | (go_at_call 20; (with_reducible refine (spec_SameBytes.calls _ _ l0_1 _ _ l1_1 false _ ?side1 ?side2 ?side3 ?side4 A7.out).mono ?_); (case side1 => repeat (first | exact (Kd.C_below HR0_1.out HB.out) | (with_reducible refine Kd.C_alloc ?_ _) | (with_reducible refine Kd.C_drewN ?_ _) | (with_reducible refine Kd.C_drew ?_))); (case side2 => exact HC0_1.out); (case side3 => repeat (first | exact (Kd.C_below HR1_1.out HB.out) | (with_reducible refine Kd.C_alloc ?_ _) | (with_reducible refine Kd.C_drewN ?_ _) | (with_reducible refine Kd.C_drew ?_))); (case side4 => exact HC1_1.out); rintro e w' ⟨rfl, ⟨nd, rfl⟩⟩; (try first | exact ⟨rfl, _, World.drewN_drewN _ _ _⟩ | exact ⟨rfl, _, Eq.trans (World.drewN_drewN _ _ _) (congrArg (World.drewN _) (Nat.add_assoc _ _ _))⟩))); try go_wp2_with (first | (go_at_call 20; (with_reducible refine (spec_SameBytes.calls _ _ l0_1 _ _ l1_1 false _ ?side1 ?side2 ?side3 ?side4 A7.out).mono ?_); (case side1 => repeat (first | exact (Kd.C_below HR0_1.out HB.out) | (with_reducible refine Kd.C_alloc ?_ _) | (with_reducible refine Kd.C_drewN ?_ _) | (with_reducible refine Kd.C_drew ?_))); (case side2 => exact HC0_1.out); (case side3 => repeat (first | exact (Kd.C_below HR1_1.out HB.out) | (with_reducible refine Kd.C_alloc ?_ _) | (with_reducible refine Kd.C_drewN ?_ _) | (with_reducible refine Kd.C_drew ?_))); (case side4 => exact HC1_1.out); rintro e w' ⟨rfl, ⟨nd, rfl⟩⟩; (try first | exact ⟨rfl, _, World.drewN_drewN _ _ _⟩ | exact ⟨rfl, _, Eq.trans (World.drewN_drewN _ _ _) (congrArg (World.drewN _) (Nat.add_assoc _ _ _))⟩))))
    go_meet
    case rel => exact ⟨_, (true), (by first | rfl | (simp; done) | (simp [*]; done)), H', ⟨by first | omega | exact Nat.le_refl _⟩, ⟨by (with_reducible repeat (first | refine blk_drewN ?_ _ | refine blk_drew ?_ | refine blk_alloc ?_ _)); exact BK109.out⟩, ⟨by (with_reducible repeat (first | refine blk_drewN ?_ _ | refine blk_drew ?_ | refine blk_alloc ?_ _)); exact BK110.out⟩, ⟨by repeat (first | (with_reducible first | exact HB.out | apply below_alloc | apply pw_below_drewN | apply below_drew1 | refine below_set ?_ GE109.out | refine below_set ?_ GE110.out) | exact HB.out)⟩⟩
  ·rw [if_neg c6] at H
   have c6b0 : (a0_0 == a1_0) = false := beq_eq_false_iff_ne.mpr c6
   have c6b1 : (a0_0 != a1_0) = true := bne_iff_ne.mpr c6
   (first | rw [c6b0] | (simp only [i64_w, i32_w]; rw [c6b0]) | skip)
   have H' := Aside0.mk H
   clear H
   have hnb27 := NB109_110.out
   have hnc27 := NB110_109.out
   have hcz28_0 : w5.cell? ⟨gb109, 0, none⟩ = some (.int .i64 a0_0) := (blk_cell BK109.out 0).trans rfl
   have hcz28_1 : w5.cell? ⟨gb109, 1, none⟩ = some (.slice A0_1 l0_1.length c0_1) := (blk_cell BK109.out 1).trans rfl
   have hcz28_2 : w5.cell? ⟨gb109, 2, none⟩ = some (.int .u64 a0_2) := (blk_cell BK109.out 2).trans rfl
   have hcz28_3 : w5.cell? ⟨gb109, 3, none⟩ = some (.slice A0_3 l0_3.length c0_3) := (blk_cell BK109.out 3).trans rfl
   have hcz28_4 : w5.cell? ⟨gb109, 4, none⟩ = some (.int .u64 a0_4) := (blk_cell BK109.out 4).trans rfl
   have hcz28_5 : w5.cell? ⟨gb109, 5, none⟩ = some (.int .u64 a0_5) := (blk_cell BK109.out 5).trans rfl
   have hfz28_0 := blk_frozen BK109.out 0
   have hfz28_1 := blk_frozen BK109.out 1
   have hfz28_2 := blk_frozen BK109.out 2
   have hfz28_3 := blk_frozen BK109.out 3
   have hfz28_4 := blk_frozen BK109.out 4
   have hfz28_5 := blk_frozen BK109.out 5
   have hcz29_0 : w5.cell? ⟨gb110, 0, none⟩ = some (.int .i64 a1_0) := (blk_cell BK110.out 0).trans rfl
   have hcz29_1 : w5.cell? ⟨gb110, 1, none⟩ = some (.slice A1_1 l1_1.length c1_1) := (blk_cell BK110.out 1).trans rfl
   have hcz29_2 : w5.cell? ⟨gb110, 2, none⟩ = some (.int .u64 a1_2) := (blk_cell BK110.out 2).trans rfl
   have hcz29_3 : w5.cell? ⟨gb110, 3, none⟩ = some (.slice A1_3 l1_3.length c1_3) := (blk_cell BK110.out 3).trans rfl
   have hcz29_4 : w5.cell? ⟨gb110, 4, none⟩ = some (.int .u64 a1_4) := (blk_cell BK110.out 4).trans rfl
   have hcz29_5 : w5.cell? ⟨gb110, 5, none⟩ = some (.int .u64 a1_5) := (blk_cell BK110.out 5).trans rfl
   have hfz29_0 := blk_frozen BK110.out 0
   have hfz29_1 := blk_frozen BK110.out 1
   have hfz29_2 := blk_frozen BK110.out 2
   have hfz29_3 := blk_frozen BK110.out 3
   have hfz29_4 := blk_frozen BK110.out 4
   have hfz29_5 := blk_frozen BK110.out 5
   go_wp2
   repeat (go_quiet (fail); try go_wp2)
   go_meet
   case rel => exact ⟨_, (true), (by first | rfl | (simp; done) | (simp [*]; done)), H', ⟨by first | omega | exact Nat.le_refl _⟩, ⟨by (with_reducible repeat (first | refine blk_drewN ?_ _ | refine blk_drew ?_ | refine blk_alloc ?_ _)); exact BK109.out⟩, ⟨by (with_reducible repeat (first | refine blk_drewN ?_ _ | refine blk_drew ?_ | refine blk_alloc ?_ _)); exact BK110.out⟩, ⟨by repeat (first | (with_reducible first | exact HB.out | apply below_alloc | apply pw_below_drewN | apply below_drew1 | refine below_set ?_ GE109.out | refine below_set ?_ GE110.out) | exact HB.out)⟩⟩
 case rest =>
  clear HC3
  try clear c1
  try clear c2
  try clear p2
  try clear c3
  try clear c6
  try clear c6b0
  try clear c6b1
  try clear c8
  try clear c9
  try clear c9b0
  try clear c9b1
  try clear c10
  try clear c10b0
  try clear c10b1
  try clear c11
  try clear c11b0
  try clear c11b1
  try clear c12
  try clear c15
  try clear c18
  try clear c21
  try clear c24
  try clear c27
  try clear hcz13_0
  try clear hcz13_1
  try clear hcz13_2
  try clear hcz13_3
  try clear hcz13_4
  try clear hcz13_5
  try clear hcz14_0
  try clear hcz14_1
  try clear hcz14_2
  try clear hcz14_3
  try clear hcz14_4
  try clear hcz14_5
  try clear hcz16_0
  try clear hcz16_1
  try clear hcz16_2
  try clear hcz16_3
  try clear hcz16_4
  try clear hcz16_5
  try clear hcz17_0
  try clear hcz17_1
  try clear hcz17_2
  try clear hcz17_3
  try clear hcz17_4
  try clear hcz17_5
  try clear hcz19_0
  try clear hcz19_1
  try clear hcz19_2
  try clear hcz19_3
  try clear hcz19_4
  try clear hcz19_5
  try clear hcz20_0
  try clear hcz20_1
  try clear hcz20_2
  try clear hcz20_3
  try clear hcz20_4
  try clear hcz20_5
  try clear hcz22_0
  try clear hcz22_1
  try clear hcz22_2
  try clear hcz22_3
  try clear hcz22_4
  try clear hcz22_5
  try clear hcz23_0
  try clear hcz23_1
  try clear hcz23_2
  try clear hcz23_3
  try clear hcz23_4
  try clear hcz23_5
  try clear hcz25_0
  try clear hcz25_1
  try clear hcz25_2
  try clear hcz25_3
  try clear hcz25_4
  try clear hcz25_5
  try clear hcz26_0
  try clear hcz26_1
  try clear hcz26_2
  try clear hcz26_3
  try clear hcz26_4
  try clear hcz26_5
  try clear hcz28_0
  try clear hcz28_1
  try clear hcz28_2
  try clear hcz28_3
  try clear hcz28_4
  try clear hcz28_5
  try clear hcz29_0
  try clear hcz29_1
  try clear hcz29_2
  try clear hcz29_3
  try clear hcz29_4
  try clear hcz29_5
  try clear hfz13_0
  try clear hfz13_1
  try clear hfz13_2
  try clear hfz13_3
  try clear hfz13_4
  try clear hfz13_5
  try clear hfz14_0
  try clear hfz14_1
  try clear hfz14_2
  try clear hfz14_3
  try clear hfz14_4
  try clear hfz14_5
  try clear hfz16_0
  try clear hfz16_1
  try clear hfz16_2
  try clear hfz16_3
  try clear hfz16_4
  try clear hfz16_5
  try clear hfz17_0
  try clear hfz17_1
  try clear hfz17_2
  try clear hfz17_3
  try clear hfz17_4
  try clear hfz17_5
  try clear hfz19_0
  try clear hfz19_1
  try clear hfz19_2
  try clear hfz19_3
  try clear hfz19_4
  try clear hfz19_5
  try clear hfz20_0
  try clear hfz20_1
  try clear hfz20_2
  try clear hfz20_3
  try clear hfz20_4
  try clear hfz20_5
  try clear hfz22_0
  try clear hfz22_1
  try clear hfz22_2
  try clear hfz22_3
  try clear hfz22_4
  try clear hfz22_5
  try clear hfz23_0
  try clear hfz23_1
  try clear hfz23_2
  try clear hfz23_3
  try clear hfz23_4
  try clear hfz23_5
  try clear hfz25_0
  try clear hfz25_1
  try clear hfz25_2
  try clear hfz25_3
  try clear hfz25_4
  try clear hfz25_5
  try clear hfz26_0
  try clear hfz26_1
  try clear hfz26_2
  try clear hfz26_3
  try clear hfz26_4
  try clear hfz26_5
  try clear hfz28_0
  try clear hfz28_1
  try clear hfz28_2
  try clear hfz28_3
  try clear hfz28_4
  try clear hfz28_5
  try clear hfz29_0
  try clear hfz29_1
  try clear hfz29_2
  try clear hfz29_3
  try clear hfz29_4
  try clear hfz29_5
  obtain ⟨kq, x48_2, rfl, HA, HJ2, BK109, BK110, HB⟩ := hcut
  cases kq with
  | zero => exact absurd HA.out (by simp [spec_SameFS.j0])
  | succ kj2 =>
   have H := HA.out
   clear HA
   simp only [spec_SameFS.j0] at H
   by_cases c30 : x48_2 = true
   ·subst c30
    have H1 : (some false) = some r := by rw [if_pos rfl] at H; exact H
    clear H
    have H := H1
    clear H1
    obtain rfl := Option.some.inj H
    go_wp2
    repeat (go_quiet (fail); try go_wp2)
    go_ret
    exact ⟨by first | rfl | (simp [errV_none, errV_some] <;> rfl) | (simp [*, errV_none, errV_some] <;> rfl), by repeat (first | (with_reducible first | exact HB.out | apply below_alloc | apply pw_below_drewN | apply below_drew1 | refine below_set ?_ GE109.out | refine below_set ?_ GE110.out) | exact HB.out)⟩
   ·replace c30 := Bool.eq_false_iff.mpr c30
    subst c30
    have H1 : (spec_SameFS.l0 kj2 (l0_3.length : Int) 0 a0_0 l0_1 a0_2 l0_3 a0_4 a0_5 a1_0 l1_1 a1_2 l1_3 a1_4 a1_5) = some r := by rw [if_neg (show ¬ (false = true) by decide)] at H; exact H
    clear H
    have H := H1
    clear H1
    have H' := Aside0.mk H
    clear H
    have hnb31 := NB109_110.out
    have hnc31 := NB110_109.out
    have hcz32_0 : wc.cell? ⟨gb109, 0, none⟩ = some (.int .i64 a0_0) := (blk_cell BK109.out 0).trans rfl
    have hcz32_1 : wc.cell? ⟨gb109, 1, none⟩ = some (.slice A0_1 l0_1.length c0_1) := (blk_cell BK109.out 1).trans rfl
    have hcz32_2 : wc.cell? ⟨gb109, 2, none⟩ = some (.int .u64 a0_2) := (blk_cell BK109.out 2).trans rfl
    have hcz32_3 : wc.cell? ⟨gb109, 3, none⟩ = some (.slice A0_3 l0_3.length c0_3) := (blk_cell BK109.out 3).trans rfl
    have hcz32_4 : wc.cell? ⟨gb109, 4, none⟩ = some (.int .u64 a0_4) := (blk_cell BK109.out 4).trans rfl
    have hcz32_5 : wc.cell? ⟨gb109, 5, none⟩ = some (.int .u64 a0_5) := (blk_cell BK109.out 5).trans rfl
    have hfz32_0 := blk_frozen BK109.out 0
    have hfz32_1 := blk_frozen BK109.out 1
    have hfz32_2 := blk_frozen BK109.out 2
    have hfz32_3 := blk_frozen BK109.out 3
    have hfz32_4 := blk_frozen BK109.out 4
    have hfz32_5 := blk_frozen BK109.out 5
    go_wp2
    repeat (go_quiet (fail); try go_wp2)
    (try simp only [Act.put, List.setIfInBounds_toArray, List.set_cons_zero, List.set_cons_succ])
    go_loopg [52] kj2 (fun kq v52 w' => ∃ (x52_2 : Int), v52 = .int .i64 x52_2 ∧ Aside0 (spec_SameFS.l0 kq (l0_3.length : Int) x52_2 a0_0 l0_1 a0_2 l0_3 a0_4 a0_5 a1_0 l1_1 a1_2 l1_3 a1_4 a1_5 = some r) ∧ Aside0 (kq ≤ kj2) ∧ Aside0 (w'.heap[gb109]? = some (.cells #[.int .i64 a0_0, (.slice A0_1 l0_1.length c0_1), .int .u64 a0_2, (.slice A0_3 l0_3.length c0_3), .int .u64 a0_4, .int .u64 a0_5] 56 (0, 0))) ∧ Aside0 (w'.heap[gb110]? = some (.cells #[.int .i64 a1_0, (.slice A1_1 l1_1.length c1_1), .int .u64 a1_2, (.slice A1_3 l1_3.length c1_3), .int .u64 a1_4, .int .u64 a1_5] 56 (0, 0))) ∧ Aside0 (Below w.heap.size w w'))
    case atStart => exact ⟨(0), (by first | rfl | (simp; done) | (simp [*]; done)), H', ⟨Nat.le_refl _⟩, ⟨by (with_reducible repeat (first | refine blk_drewN ?_ _ | refine blk_drew ?_ | refine blk_alloc ?_ _)); exact BK109.out⟩, ⟨by (with_reducible repeat (first | refine blk_drewN ?_ _ | refine blk_drew ?_ | refine blk_alloc ?_ _)); exact BK110.out⟩, ⟨by repeat (first | (with_reducible first | exact HB.out | apply below_alloc | apply pw_below_drewN | apply below_drew1 | refine below_set ?_ GE109.out | refine below_set ?_ GE110.out) | exact HB.out)⟩⟩
    case round =>
     clear H'
     try clear c1
     try clear c2
     try clear p2
     try clear c3
     try clear c6
     try clear c6b0
     try clear c6b1
     try clear c8
     try clear c9
     try clear c9b0
     try clear c9b1
     try clear c10
     try clear c10b0
     try clear c10b1
     try clear c11
     try clear c11b0
     try clear c11b1
     try clear c12
     try clear c15
     try clear c18
     try clear c21
     try clear c24
     try clear c27
     try clear c30
     try clear c31
     try clear hcz13_0
     try clear hcz13_1
     try clear hcz13_2
     try clear hcz13_3
     try clear hcz13_4
     try clear hcz13_5
     try clear hcz14_0
     try clear hcz14_1
     try clear hcz14_2
     try clear hcz14_3
     try clear hcz14_4
     try clear hcz14_5
     try clear hcz16_0
     try clear hcz16_1
     try clear hcz16_2
     try clear hcz16_3
     try clear hcz16_4
     try clear hcz16_5
     try clear hcz17_0
     try clear hcz17_1
     try clear hcz17_2
     try clear hcz17_3
     try clear hcz17_4
     try clear hcz17_5
     try clear hcz19_0
     try clear hcz19_1
     try clear hcz19_2
     try clear hcz19_3
     try clear hcz19_4
     try clear hcz19_5
     try clear hcz20_0
     try clear hcz20_1
     try clear hcz20_2
     try clear hcz20_3
     try clear hcz20_4
     try clear hcz20_5
     try clear hcz22_0
     try clear hcz22_1
     try clear hcz22_2
     try clear hcz22_3
     try clear hcz22_4
     try clear hcz22_5
     try clear hcz23_0
     try clear hcz23_1
     try clear hcz23_2
     try clear hcz23_3
     try clear hcz23_4
     try clear hcz23_5
     try clear hcz25_0
     try clear hcz25_1
     try clear hcz25_2
     try clear hcz25_3
     try clear hcz25_4
     try clear hcz25_5
     try clear hcz26_0
     try clear hcz26_1
     try clear hcz26_2
     try clear hcz26_3
     try clear hcz26_4
     try clear hcz26_5
     try clear hcz28_0
     try clear hcz28_1
     try clear hcz28_2
     try clear hcz28_3
     try clear hcz28_4
     try clear hcz28_5
     try clear hcz29_0
     try clear hcz29_1
     try clear hcz29_2
     try clear hcz29_3
     try clear hcz29_4
     try clear hcz29_5
     try clear hcz32_0
     try clear hcz32_1
     try clear hcz32_2
     try clear hcz32_3
     try clear hcz32_4
     try clear hcz32_5
     try clear hfz13_0
     try clear hfz13_1
     try clear hfz13_2
     try clear hfz13_3
     try clear hfz13_4
     try clear hfz13_5
     try clear hfz14_0
     try clear hfz14_1
     try clear hfz14_2
     try clear hfz14_3
     try clear hfz14_4
     try clear hfz14_5
     try clear hfz16_0
     try clear hfz16_1
     try clear hfz16_2
     try clear hfz16_3
     try clear hfz16_4
     try clear hfz16_5
     try clear hfz17_0
     try clear hfz17_1
     try clear hfz17_2
     try clear hfz17_3
     try clear hfz17_4
     try clear hfz17_5
     try clear hfz19_0
     try clear hfz19_1
     try clear hfz19_2
     try clear hfz19_3
     try clear hfz19_4
     try clear hfz19_5
     try clear hfz20_0
     try clear hfz20_1
     try clear hfz20_2
     try clear hfz20_3
     try clear hfz20_4
     try clear hfz20_5
     try clear hfz22_0
     try clear hfz22_1
     try clear hfz22_2
     try clear hfz22_3
     try clear hfz22_4
     try clear hfz22_5
     try clear hfz23_0
     try clear hfz23_1
     try clear hfz23_2
     try clear hfz23_3
     try clear hfz23_4
     try clear hfz23_5
     try clear hfz25_0
     try clear hfz25_1
     try clear hfz25_2
     try clear hfz25_3
     try clear hfz25_4
     try clear hfz25_5
     try clear hfz26_0
     try clear hfz26_1
     try clear hfz26_2
     try clear hfz26_3
     try clear hfz26_4
     try clear hfz26_5
     try clear hfz28_0
     try clear hfz28_1
     try clear hfz28_2
     try clear hfz28_3
     try clear hfz28_4
     try clear hfz28_5
     try clear hfz29_0
     try clear hfz29_1
     try clear hfz29_2
     try clear hfz29_3
     try clear hfz29_4
     try clear hfz29_5
     try clear hfz32_0
     try clear hfz32_1
     try clear hfz32_2
     try clear hfz32_3
     try clear hfz32_4
     try clear hfz32_5
     try clear p2
     obtain ⟨x52_2, rfl, HA, HK2, BK109, BK110, HB⟩ := hrel
     cases gk with
     | zero => exact absurd HA.out (by simp [spec_SameFS.l0])
     | succ k2 =>
      have H := HA.out
      clear HA
      simp only [spec_SameFS.l0] at H
      by_cases c33 : x52_2 < (l0_3.length : Int)
      ·rw [if_pos c33] at H
       have c33b0 : decide (x52_2 < (l0_3.length : Int)) = true := decide_eq_true c33
       clear c33
       by_cases c34 : 0 ≤ x52_2
       ·rw [if_pos c34] at H
        have c34b0 : decide (0 ≤ x52_2) = true := decide_eq_true c34
        clear c34
        by_cases c35 : x52_2 < (l0_3.length : Int)
        ·rw [if_pos c35] at H
         have c35b0 : decide (x52_2 < (l0_3.length : Int)) = true := decide_eq_true c35
         clear c35
         by_cases c36 : x52_2 < (l1_3.length : Int)
         ·rw [if_pos c36] at H
          have c36b0 : decide (x52_2 < (l1_3.length : Int)) = true := decide_eq_true c36
          clear c36
          by_cases c37 : (rd l0_3 x52_2) = (rd l1_3 x52_2)
          ·rw [if_pos c37] at H
           have c37b0 : ((rd l0_3 x52_2) == (rd l1_3 x52_2)) = true := beq_iff_eq.mpr c37
           have c37b1 : ((rd l0_3 x52_2) != (rd l1_3 x52_2)) = false := bne_eq_false_iff_eq.mpr c37
           clear c37
           have H' := Aside0.mk H
           clear H
           have hnb38 := NB109_110.out
           have hnc38 := NB110_109.out
           have hcz39_0 : wr.cell? ⟨gb109, 0, none⟩ = some (.int .i64 a0_0) := (blk_cell BK109.out 0).trans rfl
           have hcz39_1 : wr.cell? ⟨gb109, 1, none⟩ = some (.slice A0_1 l0_1.length c0_1) := (blk_cell BK109.out 1).trans rfl
           have hcz39_2 : wr.cell? ⟨gb109, 2, none⟩ = some (.int .u64 a0_2) := (blk_cell BK109.out 2).trans rfl
           have hcz39_3 : wr.cell? ⟨gb109, 3, none⟩ = some (.slice A0_3 l0_3.length c0_3) := (blk_cell BK109.out 3).trans rfl
           have hcz39_4 : wr.cell? ⟨gb109, 4, none⟩ = some (.int .u64 a0_4) := (blk_cell BK109.out 4).trans rfl
           have hcz39_5 : wr.cell? ⟨gb109, 5, none⟩ = some (.int .u64 a0_5) := (blk_cell BK109.out 5).trans rfl
           have hfz39_0 := blk_frozen BK109.out 0
           have hfz39_1 := blk_frozen BK109.out 1
           have hfz39_2 := blk_frozen BK109.out 2
           have hfz39_3 := blk_frozen BK109.out 3
           have hfz39_4 := blk_frozen BK109.out 4
           have hfz39_5 := blk_frozen BK109.out 5
           have p112 : 0 ≤ (x52_2 : Int) := of_decide_eq_true (by first | (with_reducible assumption) | assumption)
           have q112 : x52_2 < (l0_3.length : Int) := of_decide_eq_true (by first | (with_reducible assumption) | assumption)
           obtain ⟨ad112, e112, hx112_0⟩ := Kd.at_int HR0_3.out x52_2 p112 q112
           cases e112
           replace hx112_0 := (HB.out.cell (World.block_lt_of_cell? w _ hx112_0)).trans hx112_0
           replace p112 := eq_true p112
           replace q112 := eq_true q112
           have hcz40_0 : wr.cell? ⟨gb110, 0, none⟩ = some (.int .i64 a1_0) := (blk_cell BK110.out 0).trans rfl
           have hcz40_1 : wr.cell? ⟨gb110, 1, none⟩ = some (.slice A1_1 l1_1.length c1_1) := (blk_cell BK110.out 1).trans rfl
           have hcz40_2 : wr.cell? ⟨gb110, 2, none⟩ = some (.int .u64 a1_2) := (blk_cell BK110.out 2).trans rfl
           have hcz40_3 : wr.cell? ⟨gb110, 3, none⟩ = some (.slice A1_3 l1_3.length c1_3) := (blk_cell BK110.out 3).trans rfl
           have hcz40_4 : wr.cell? ⟨gb110, 4, none⟩ = some (.int .u64 a1_4) := (blk_cell BK110.out 4).trans rfl
           have hcz40_5 : wr.cell? ⟨gb110, 5, none⟩ = some (.int .u64 a1_5) := (blk_cell BK110.out 5).trans rfl
           have hfz40_0 := blk_frozen BK110.out 0
           have hfz40_1 := blk_frozen BK110.out 1
           have hfz40_2 := blk_frozen BK110.out 2
           have hfz40_3 := blk_frozen BK110.out 3
           have hfz40_4 := blk_frozen BK110.out 4
           have hfz40_5 := blk_frozen BK110.out 5
           have p113 : 0 ≤ (x52_2 : Int) := of_decide_eq_true (by first | (with_reducible assumption) | assumption)
           have q113 : x52_2 < (l1_3.length : Int) := of_decide_eq_true (by first | (with_reducible assumption) | assumption)
           obtain ⟨ad113, e113, hx113_0⟩ := Kd.at_int HR1_3.out x52_2 p113 q113
           cases e113
           replace hx113_0 := (HB.out.cell (World.block_lt_of_cell? w _ hx113_0)).trans hx113_0
           replace p113 := eq_true p113
           replace q113 := eq_true q113
           go_wp2
           repeat (go_quiet (fail); try go_wp2)
           go_roundg k2
           case measure => have := HJ2.out; have := HK2.out; omega
           case rel => exact ⟨(wrap64 (x52_2 + 1)), (by first | rfl | (simp; done) | (simp [*]; done)), H', ⟨by have := HJ2.out; have := HK2.out; omega⟩, ⟨by (with_reducible repeat (first | refine blk_drewN ?_ _ | refine blk_drew ?_ | refine blk_alloc ?_ _)); exact BK109.out⟩, ⟨by (with_reducible repeat (first | refine blk_drewN ?_ _ | refine blk_drew ?_ | refine blk_alloc ?_ _)); exact BK110.out⟩, ⟨by repeat (first | (with_reducible first | exact HB.out | apply below_alloc | apply pw_below_drewN | apply below_drew1 | refine below_set ?_ GE109.out | refine below_set ?_ GE110.out) | exact HB.out)⟩⟩
          ·rw [if_neg c37] at H
           have c37b0 : ((rd l0_3 x52_2) == (rd l1_3 x52_2)) = false := beq_eq_false_iff_ne.mpr c37
           have c37b1 : ((rd l0_3 x52_2) != (rd l1_3 x52_2)) = true := bne_iff_ne.mpr c37
           obtain rfl := Option.some.inj H
           have hnb41 := NB109_110.out
           have hnc41 := NB110_109.out
           have hcz42_0 : wr.cell? ⟨gb109, 0, none⟩ = some (.int .i64 a0_0) := (blk_cell BK109.out 0).trans rfl
           have hcz42_1 : wr.cell? ⟨gb109, 1, none⟩ = some (.slice A0_1 l0_1.length c0_1) := (blk_cell BK109.out 1).trans rfl
           have hcz42_2 : wr.cell? ⟨gb109, 2, none⟩ = some (.int .u64 a0_2) := (blk_cell BK109.out 2).trans rfl
           have hcz42_3 : wr.cell? ⟨gb109, 3, none⟩ = some (.slice A0_3 l0_3.length c0_3) := (blk_cell BK109.out 3).trans rfl
           have hcz42_4 : wr.cell? ⟨gb109, 4, none⟩ = some (.int .u64 a0_4) := (blk_cell BK109.out 4).trans rfl
           have hcz42_5 : wr.cell? ⟨gb109, 5, none⟩ = some (.int .u64 a0_5) := (blk_cell BK109.out 5).trans rfl
           have hfz42_0 := blk_frozen BK109.out 0
           have hfz42_1 := blk_frozen BK109.out 1
           have hfz42_2 := blk_frozen BK109.out 2
           have hfz42_3 := blk_frozen BK109.out 3
           have hfz42_4 := blk_frozen BK109.out 4
           have hfz42_5 := blk_frozen BK109.out 5
           have p112 : 0 ≤ (x52_2 : Int) := of_decide_eq_true (by first | (with_reducible assumption) | assumption)
           have q112 : x52_2 < (l0_3.length : Int) := of_decide_eq_true (by first | (with_reducible assumption) | assumption)
           obtain ⟨ad112, e112, hx112_0⟩ := Kd.at_int HR0_3.out x52_2 p112 q112
           cases e112
           replace hx112_0 := (HB.out.cell (World.block_lt_of_cell? w _ hx112_0)).trans hx112_0
           replace p112 := eq_true p112
           replace q112 := eq_true q112
           have hcz43_0 : wr.cell? ⟨gb110, 0, none⟩ = some (.int .i64 a1_0) := (blk_cell BK110.out 0).trans rfl
           have hcz43_1 : wr.cell? ⟨gb110, 1, none⟩ = some (.slice A1_1 l1_1.length c1_1) := (blk_cell BK110.out 1).trans rfl
           have hcz43_2 : wr.cell? ⟨gb110, 2, none⟩ = some (.int .u64 a1_2) := (blk_cell BK110.out 2).trans rfl
           have hcz43_3 : wr.cell? ⟨gb110, 3, none⟩ = some (.slice A1_3 l1_3.length c1_3) := (blk_cell BK110.out 3).trans rfl
           have hcz43_4 : wr.cell? ⟨gb110, 4, none⟩ = some (.int .u64 a1_4) := (blk_cell BK110.out 4).trans rfl
           have hcz43_5 : wr.cell? ⟨gb110, 5, none⟩ = some (.int .u64 a1_5) := (blk_cell BK110.out 5).trans rfl
           have hfz43_0 := blk_frozen BK110.out 0
           have hfz43_1 := blk_frozen BK110.out 1
           have hfz43_2 := blk_frozen BK110.out 2
           have hfz43_3 := blk_frozen BK110.out 3
           have hfz43_4 := blk_frozen BK110.out 4
           have hfz43_5 := blk_frozen BK110.out 5
           have p113 : 0 ≤ (x52_2 : Int) := of_decide_eq_true (by first | (with_reducible assumption) | assumption)
           have q113 : x52_2 < (l1_3.length : Int) := of_decide_eq_true (by first | (with_reducible assumption) | assumption)
           obtain ⟨ad113, e113, hx113_0⟩ := Kd.at_int HR1_3.out x52_2 p113 q113
           cases e113
           replace hx113_0 := (HB.out.cell (World.block_lt_of_cell? w _ hx113_0)).trans hx113_0
           replace p113 := eq_true p113
           replace q113 := eq_true q113
           go_wp2
           repeat (go_quiet (fail); try go_wp2)
           go_ret
           exact ⟨by first | rfl | (simp [errV_none, errV_some] <;> rfl) | (simp [*, errV_none, errV_some] <;> rfl), by repeat (first | (with_reducible first | exact HB.out | apply below_alloc | apply pw_below_drewN | apply below_drew1 | refine below_set ?_ GE109.out | refine below_set ?_ GE110.out) | exact HB.out)⟩
         ·rw [if_neg c36] at H
          exact absurd H (by simp)
        ·rw [if_neg c35] at H
         exact absurd H (by simp)
       ·rw [if_neg c34] at H
        exact absurd H (by simp)
      ·rw [if_neg c33] at H
       have c33b0 : decide (x52_2 < (l0_3.length : Int)) = false := decide_eq_false c33
       clear c33
       obtain rfl := Option.some.inj H
       go_wp2
       repeat (go_quiet (fail); try go_wp2)
       go_ret
       exact ⟨by first | rfl | (simp [errV_none, errV_some] <;> rfl) | (simp [*, errV_none, errV_some] <;> rfl), by repeat (first | (with_reducible first | exact HB.out | apply below_alloc | apply pw_below_drewN | apply below_drew1 | refine below_set ?_ GE109.out | refine below_set ?_ GE110.out) | exact HB.out)⟩

end Go.Proofs.YtnhnlodmkbiiiaaDoor.PScr
