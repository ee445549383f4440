/- Printed by a program of this session (it drives the print of the kit, with contracts proved by hand beside): the Go functions of one law as Lean functions, and that the Go code comes to what they say. -/
import Derived.Test.YtnhnlodmkbiiiaaDoorQPPbJoinx0
namespace Go.Proofs.YtnhnlodmkbiiiaaDoor.PPbJoin
open Go.RowKit Go.Proofs.YtnhnlodmkbiiiaaDoorL Go.Proofs.YtnhnlodmkbiiiaaDoorW.PrintWords Go.Proofs.YtnhnlodmkbiiiaaDoorW.PrintLast Go.Proofs.YtnhnlodmkbiiiaaDoorW.PrintMore
attribute [local go_sem] max2_int min2_int max_two min_two max_three min_three max_four min_four   -- for this text's walks alone
set_option linter.unusedVariables false
set_option linter.unusedSimpArgs false

/-! ### laws_pbSmall: function 17 -/
mutual
def laws_pbSmall.j0 : Nat → Bool → Bool → List Int → List (S27) → Option (Bool)
 | 0, _, _, _, _ => none
 | k + 1, x14, x110000, x110001, x110002 => if x14 = true then (some false) else (laws_pbSmall.l0 k x110002 (x110002.length : Int) 0)
def laws_pbSmall.l0 : Nat → List (S27) → Int → Int → Option (Bool)
 | 0, _, _, _ => none
 | k + 1, x16, x17, x18 => if x18 < x17 then (if 0 ≤ x18 then (if x18 < (x16.length : Int) then (if (((rd_T27 x16 x18).f3).length : Int) > 100 then (some false) else (if (((rd_T27 x16 x18).f4).size : Int) > 100 then (some false) else (laws_pbSmall.l0 k x16 x17 (wrap64 (x18 + 1))))) else (none)) else (none)) else (some true)
end
def laws_pbSmall.f (k : Nat) (a0_0 : Bool) (l0_1 : List Int) (l0_2 : List (S27)) : Option (Bool) := if (l0_1.length : Int) > 500 then (laws_pbSmall.j0 k true a0_0 l0_1 l0_2) else (laws_pbSmall.j0 k (decide ((l0_2.length : Int) > 20)) a0_0 l0_1 l0_2)
set_option maxHeartbeats 8000000 in
set_option maxRecDepth 100000 in
theorem laws_pbSmall.calls (k : Nat) (a0_0 : Bool) (A0_1 : Option Addr) (c0_1 : Nat) (l0_1 : List Int) (A0_2 : Option Addr) (c0_2 : Nat) (l0_2 : List (S27)) (r : Bool) (w : World) (hr0_1 : Kd.C (Kd.int .u8) w A0_1 l0_1.length l0_1) (hc0_1 : l0_1.length ≤ c0_1) (hr0_2 : Kd.C k27 w A0_2 l0_2.length l0_2) (hc0_2 : l0_2.length ≤ c0_2) (h : laws_pbSmall.f k a0_0 l0_1 l0_2 = some r) :
  Calls Tryd.prog 17 #[.agg #[.bool a0_0, .slice A0_1 l0_1.length c0_1, .slice A0_2 l0_2.length c0_2]] w fun e w' => e = .returned (.bool r) ∧ Below w.heap.size w w' := by
 have hu36 := Tryd.underlying36
 have hu27 := Tryd.underlying27
 have HR0_1 := Aside0.mk hr0_1
 have HC0_1 := Aside0.mk hc0_1
 clear hr0_1 hc0_1
 have HR0_2 := Aside0.mk hr0_2
 have HC0_2 := Aside0.mk hc0_2
 clear hr0_2 hc0_2
 have HB := Aside0.mk (Below.refl w.heap.size w)
 have H : (if (l0_1.length : Int) > 500 then (laws_pbSmall.j0 k true a0_0 l0_1 l0_2) else (laws_pbSmall.j0 k (decide ((l0_2.length : Int) > 20)) a0_0 l0_1 l0_2)) = some r := h
 clear h
 have HC2 := Aside0.mk H
 clear H
 go_enter Tryd.func17, Tryd.ntmps17
 go_upto_region 1 with (first | ((with_reducible refine gate_dst (N := 1) rfl ?_); refine box_event ?hg (N := 1) ?hd (cs := #[.bool a0_0, .slice A0_1 l0_1.length c0_1, .slice A0_2 l0_2.length c0_2]) (t := 36) ?hr ?_; (case hd => rfl); (case hg => rfl); (case hr => first | (go_simp; done) | (go_simp; rfl)); intro gb109 hg w3 hbox hb; have n0_ := Aside0.mk (below_step (by repeat (first | (with_reducible first | exact HB.out | apply below_alloc | apply pw_below_drewN | apply below_drew1) | exact HB.out)) hb); have n1_ := Aside0.mk (hbox); have n2_ := Aside0.mk ((by rw [hg]; exact (below_size (by repeat (first | (with_reducible first | exact HB.out | apply below_alloc | apply pw_below_drewN | apply below_drew1) | exact HB.out))) : w.heap.size ≤ gb109)); have n3_ := Aside0.mk ((by rw [hg]; exact (below_size (by repeat (first | (with_reducible first | exact HB.out | apply below_alloc | apply pw_below_drewN | apply below_drew1) | exact HB.out))) : w.heap.size ≤ gb109)); clear HB; have HB := n0_; have BK109 := n1_; have GW109 := n2_; have GE109 := n3_; clear n0_ n1_ n2_ n3_; clear hb hbox hg))
 (try simp only [Act.put, List.setIfInBounds_toArray, List.set_cons_zero, List.set_cons_succ])
 go_cut [14] (fun v14 wc => ∃ (kq : Nat) (x14_1 : Bool), v14 = .bool x14_1 ∧ Aside0 (laws_pbSmall.j0 kq x14_1 a0_0 l0_1 l0_2 = some r) ∧ Aside0 (kq ≤ k) ∧ Aside0 (wc.heap[gb109]? = some (.cells #[.bool a0_0, (.slice A0_1 l0_1.length c0_1), (.slice A0_2 l0_2.length c0_2)] 36 (0, 0))) ∧ Aside0 (Below w.heap.size w wc))
 case first =>
  have H := HC2.out
  clear HC2
  by_cases c4 : (l0_1.length : Int) > 500
  ·rw [if_pos c4] at H
   have c4b0 : decide (500 < (l0_1.length : Int)) = true := decide_eq_true c4
   have c4b1 : decide (500 < l0_1.length) = true := decide_eq_true (by omega)
   clear c4
   (first | rw [c4b0] | (simp only [i64_w, i32_w]; rw [c4b0]) | skip)
   have H' := Aside0.mk H
   clear H
   have hcz5_0 : w3.cell? ⟨gb109, 0, none⟩ = some (.bool a0_0) := (blk_cell BK109.out 0).trans rfl
   have hcz5_1 : w3.cell? ⟨gb109, 1, none⟩ = some (.slice A0_1 l0_1.length c0_1) := (blk_cell BK109.out 1).trans rfl
   have hcz5_2 : w3.cell? ⟨gb109, 2, none⟩ = some (.slice A0_2 l0_2.length c0_2) := (blk_cell BK109.out 2).trans rfl
   have hfz5_0 := blk_frozen BK109.out 0
   have hfz5_1 := blk_frozen BK109.out 1
   have hfz5_2 := blk_frozen BK109.out 2
   go_wp2
   go_meet
   case rel => exact ⟨_, (true), (by first | rfl | (simp; done) | (simp [*]; done)), H', ⟨by first | omega | exact Nat.le_refl _⟩, ⟨by (with_reducible repeat (first | refine blk_drewN ?_ _ | refine blk_drew ?_ | refine blk_alloc ?_ _)); exact BK109.out⟩, ⟨by repeat (first | (with_reducible first | exact HB.out | apply below_alloc | apply pw_below_drewN | apply below_drew1 | refine below_set ?_ GE109.out) | exact HB.out)⟩⟩
  ·rw [if_neg c4] at H
   have c4b0 : decide (500 < (l0_1.length : Int)) = false := decide_eq_false c4
   have c4b1 : decide (500 < l0_1.length) = false := decide_eq_false (by omega)
   clear c4
   (first | rw [c4b0] | (simp only [i64_w, i32_w]; rw [c4b0]) | skip)
   have H' := Aside0.mk H
   clear H
   have hcz6_0 : w3.cell? ⟨gb109, 0, none⟩ = some (.bool a0_0) := (blk_cell BK109.out 0).trans rfl
   have hcz6_1 : w3.cell? ⟨gb109, 1, none⟩ = some (.slice A0_1 l0_1.length c0_1) := (blk_cell BK109.out 1).trans rfl
   have hcz6_2 : w3.cell? ⟨gb109, 2, none⟩ = some (.slice A0_2 l0_2.length c0_2) := (blk_cell BK109.out 2).trans rfl
   have hfz6_0 := blk_frozen BK109.out 0
   have hfz6_1 := blk_frozen BK109.out 1
   have hfz6_2 := blk_frozen BK109.out 2
   go_wp2
   go_meet
   case rel => exact ⟨_, (decide ((l0_2.length : Int) > 20)), (by first | rfl | (simp; done) | (simp [*]; done)), H', ⟨by first | omega | exact Nat.le_refl _⟩, ⟨by (with_reducible repeat (first | refine blk_drewN ?_ _ | refine blk_drew ?_ | refine blk_alloc ?_ _)); exact BK109.out⟩, ⟨by repeat (first | (with_reducible first | exact HB.out | apply below_alloc | apply pw_below_drewN | apply below_drew1 | refine below_set ?_ GE109.out) | exact HB.out)⟩⟩
 case rest =>
  clear HC2
  try clear c1
  try clear p2
  try clear c4
  try clear c4b0
  try clear c4b1
  try clear hcz5_0
  try clear hcz5_1
  try clear hcz5_2
  try clear hcz6_0
  try clear hcz6_1
  try clear hcz6_2
  try clear hfz5_0
  try clear hfz5_1
  try clear hfz5_2
  try clear hfz6_0
  try clear hfz6_1
  try clear hfz6_2
  obtain ⟨kq, x14_1, rfl, HA, HJ1, BK109, HB⟩ := hcut
  cases kq with
  | zero => exact absurd HA.out (by simp [laws_pbSmall.j0])
  | succ kj1 =>
   have H := HA.out
   clear HA
   simp only [laws_pbSmall.j0] at H
   by_cases c7 : x14_1 = true
   ·subst c7
    have H1 : (some false) = some r := by rw [if_pos rfl] at H; exact H
    clear H
    have H := H1
    clear H1
    obtain rfl := Option.some.inj H
    go_wp2
    go_ret
    exact ⟨by first | rfl | (simp [errV_none, errV_some] <;> rfl) | (simp [*, errV_none, errV_some] <;> rfl), by repeat (first | (with_reducible first | exact HB.out | apply below_alloc | apply pw_below_drewN | apply below_drew1 | refine below_set ?_ GE109.out) | exact HB.out)⟩
   ·replace c7 := Bool.eq_false_iff.mpr c7
    subst c7
    have H1 : (laws_pbSmall.l0 kj1 l0_2 (l0_2.length : Int) 0) = some r := by rw [if_neg (show ¬ (false = true) by decide)] at H; exact H
    clear H
    have H := H1
    clear H1
    have H' := Aside0.mk H
    clear H
    have hcz8_0 : wc.cell? ⟨gb109, 0, none⟩ = some (.bool a0_0) := (blk_cell BK109.out 0).trans rfl
    have hcz8_1 : wc.cell? ⟨gb109, 1, none⟩ = some (.slice A0_1 l0_1.length c0_1) := (blk_cell BK109.out 1).trans rfl
    have hcz8_2 : wc.cell? ⟨gb109, 2, none⟩ = some (.slice A0_2 l0_2.length c0_2) := (blk_cell BK109.out 2).trans rfl
    have hfz8_0 := blk_frozen BK109.out 0
    have hfz8_1 := blk_frozen BK109.out 1
    have hfz8_2 := blk_frozen BK109.out 2
    go_wp2
    (try simp only [Act.put, List.setIfInBounds_toArray, List.set_cons_zero, List.set_cons_succ])
    go_loopg [18] kj1 (fun kq v18 w' => ∃ (x18_2 : Int), v18 = .int .i64 x18_2 ∧ Aside0 (laws_pbSmall.l0 kq l0_2 (l0_2.length : Int) x18_2 = some r) ∧ Aside0 (kq ≤ kj1) ∧ Aside0 (w'.heap[gb109]? = some (.cells #[.bool a0_0, (.slice A0_1 l0_1.length c0_1), (.slice A0_2 l0_2.length c0_2)] 36 (0, 0))) ∧ Aside0 (Below w.heap.size w w'))
    case atStart => exact ⟨(0), (by first | rfl | (simp; done) | (simp [*]; done)), H', ⟨Nat.le_refl _⟩, ⟨by (with_reducible repeat (first | refine blk_drewN ?_ _ | refine blk_drew ?_ | refine blk_alloc ?_ _)); exact BK109.out⟩, ⟨by repeat (first | (with_reducible first | exact HB.out | apply below_alloc | apply pw_below_drewN | apply below_drew1 | refine below_set ?_ GE109.out) | exact HB.out)⟩⟩
    case round =>
     clear H'
     try clear c1
     try clear p2
     try clear c4
     try clear c4b0
     try clear c4b1
     try clear c7
     try clear hcz5_0
     try clear hcz5_1
     try clear hcz5_2
     try clear hcz6_0
     try clear hcz6_1
     try clear hcz6_2
     try clear hcz8_0
     try clear hcz8_1
     try clear hcz8_2
     try clear hfz5_0
     try clear hfz5_1
     try clear hfz5_2
     try clear hfz6_0
     try clear hfz6_1
     try clear hfz6_2
     try clear hfz8_0
     try clear hfz8_1
     try clear hfz8_2
     try clear p2
     obtain ⟨x18_2, rfl, HA, HK2, BK109, HB⟩ := hrel
     cases gk with
     | zero => exact absurd HA.out (by simp [laws_pbSmall.l0])
     | succ k2 =>
      have H := HA.out
      clear HA
      simp only [laws_pbSmall.l0] at H
      by_cases c9 : x18_2 < (l0_2.length : Int)
      ·rw [if_pos c9] at H
       have c9b0 : decide (x18_2 < (l0_2.length : Int)) = true := decide_eq_true c9
       clear c9
       by_cases c10 : 0 ≤ x18_2
       ·rw [if_pos c10] at H
        have c10b0 : decide (0 ≤ x18_2) = true := decide_eq_true c10
        clear c10
        by_cases c11 : x18_2 < (l0_2.length : Int)
        ·rw [if_pos c11] at H
         have c11b0 : decide (x18_2 < (l0_2.length : Int)) = true := decide_eq_true c11
         clear c11
         by_cases c12 : (((rd_T27 l0_2 x18_2).f3).length : Int) > 100
         ·rw [if_pos c12] at H
          have c12b0 : decide (100 < (((rd_T27 l0_2 x18_2).f3).length : Int)) = true := decide_eq_true c12
          have c12b1 : decide (100 < ((rd_T27 l0_2 x18_2).f3).length) = true := decide_eq_true (by omega)
          clear c12
          obtain rfl := Option.some.inj H
          have p110 : 0 ≤ (x18_2 : Int) := of_decide_eq_true (by first | (with_reducible assumption) | assumption)
          have q110 : x18_2 < (l0_2.length : Int) := of_decide_eq_true (by first | (with_reducible assumption) | assumption)
          obtain ⟨ad110, A110_3, c110_3, e110, hx110_0, hx110_1, hx110_2, hx110_3, hx110_4, hx110_5, hl110_3, hi110_3⟩ := at_T27 HR0_2.out x18_2 p110 q110
          cases e110
          replace hx110_0 := (HB.out.cell (World.block_lt_of_cell? w _ hx110_0)).trans hx110_0
          replace hx110_1 := (HB.out.cell (World.block_lt_of_cell? w _ hx110_1)).trans hx110_1
          replace hx110_2 := (HB.out.cell (World.block_lt_of_cell? w _ hx110_2)).trans hx110_2
          replace hx110_3 := (HB.out.cell (World.block_lt_of_cell? w _ hx110_3)).trans hx110_3
          replace hx110_4 := (HB.out.cell (World.block_lt_of_cell? w _ hx110_4)).trans hx110_4
          replace hx110_5 := (HB.out.cell (World.block_lt_of_cell? w _ hx110_5)).trans hx110_5
          have HR110_3 := Aside0.mk hi110_3
          have HC110_3 := Aside0.mk hl110_3
          clear hi110_3 hl110_3
          replace p110 := eq_true p110
          replace q110 := eq_true q110
          go_wp2_with (first | ((with_reducible refine gate_dst (N := 4) rfl ?_); refine box_event ?hg (N := 4) ?hd (cs := #[.bool false, .bool false, .bool false, .slice none 0 0, .string (⟨#[]⟩ : ByteArray), .int .u64 0]) (t := 27) ?hr ?_; (case hd => rfl); (case hg => rfl); (case hr => first | (go_simp; done) | (go_simp; rfl)); intro gb111 hg w13 hbox hb; have n0_ := Aside0.mk (blk_below (g := gb109) (o := .cells #[.bool a0_0, .slice A0_1 l0_1.length c0_1, .slice (some ad110) l0_2.length c0_2] 36 (0, 0)) (by (with_reducible repeat (first | refine blk_drewN ?_ _ | refine blk_drew ?_ | refine blk_alloc ?_ _)); exact BK109.out) hb); have n1_ := Aside0.mk (below_step (by repeat (first | (with_reducible first | exact HB.out | apply below_alloc | apply pw_below_drewN | apply below_drew1 | refine below_set ?_ GE109.out) | exact HB.out)) hb); have n2_ := Aside0.mk (hbox); have n3_ := Aside0.mk ((by rw [hg]; exact (below_size (by repeat (first | (with_reducible first | exact HB.out | apply below_alloc | apply pw_below_drewN | apply below_drew1 | refine below_set ?_ GE109.out) | exact HB.out))) : w.heap.size ≤ gb111)); have n4_ := Aside0.mk ((by rw [hg]; exact (below_size (by repeat (first | (with_reducible first | exact HB.out | apply below_alloc | apply pw_below_drewN | apply below_drew1 | refine below_set ?_ GE109.out) | exact HB.out))) : w.heap.size ≤ gb111)); have n5_ := Aside0.mk ((by rw [hg]; exact Nat.ne_of_lt (blk_lt (g := gb109) (o := .cells #[.bool a0_0, .slice A0_1 l0_1.length c0_1, .slice (some ad110) l0_2.length c0_2] 36 (0, 0)) (by (with_reducible repeat (first | refine blk_drewN ?_ _ | refine blk_drew ?_ | refine blk_alloc ?_ _)); exact BK109.out)) : gb109 ≠ gb111)); have n6_ := Aside0.mk ((by rw [hg]; exact Nat.ne_of_gt (blk_lt (g := gb109) (o := .cells #[.bool a0_0, .slice A0_1 l0_1.length c0_1, .slice (some ad110) l0_2.length c0_2] 36 (0, 0)) (by (with_reducible repeat (first | refine blk_drewN ?_ _ | refine blk_drew ?_ | refine blk_alloc ?_ _)); exact BK109.out)) : gb111 ≠ gb109)); clear BK109; clear HB; have BK109 := n0_; have HB := n1_; have BK111 := n2_; have GW111 := n3_; have GE111 := n4_; have NB109_111 := n5_; have NB111_109 := n6_; clear n0_ n1_ n2_ n3_ n4_ n5_ n6_; clear hb hbox hg; have hnb14 := NB111_109.out; have hnc14 := NB109_111.out; have hcz15_0 : w13.cell? ⟨gb111, 0, none⟩ = some (.bool false) := (blk_cell BK111.out 0).trans rfl; have hcz15_1 : w13.cell? ⟨gb111, 1, none⟩ = some (.bool false) := (blk_cell BK111.out 1).trans rfl; have hcz15_2 : w13.cell? ⟨gb111, 2, none⟩ = some (.bool false) := (blk_cell BK111.out 2).trans rfl; have hcz15_3 : w13.cell? ⟨gb111, 3, none⟩ = some (.slice none 0 0) := (blk_cell BK111.out 3).trans rfl; have hcz15_4 : w13.cell? ⟨gb111, 4, none⟩ = some (.string (⟨#[]⟩ : ByteArray)) := (blk_cell BK111.out 4).trans rfl; have hcz15_5 : w13.cell? ⟨gb111, 5, none⟩ = some (.int .u64 0) := (blk_cell BK111.out 5).trans rfl; have hfz15_0 := blk_frozen BK111.out 0; have hfz15_1 := blk_frozen BK111.out 1; have hfz15_2 := blk_frozen BK111.out 2; have hfz15_3 := blk_frozen BK111.out 3; have hfz15_4 := blk_frozen BK111.out 4; have hfz15_5 := blk_frozen BK111.out 5))
          go_ret
          exact ⟨by first | rfl | (simp [errV_none, errV_some] <;> rfl) | (simp [*, errV_none, errV_some] <;> rfl), by repeat (first | (with_reducible first | exact HB.out | apply below_alloc | apply pw_below_drewN | apply below_drew1 | refine below_set ?_ GE109.out | refine below_set ?_ GE111.out) | exact HB.out)⟩
         ·rw [if_neg c12] at H
          have c12b0 : decide (100 < (((rd_T27 l0_2 x18_2).f3).length : Int)) = false := decide_eq_false c12
          have c12b1 : decide (100 < ((rd_T27 l0_2 x18_2).f3).length) = false := decide_eq_false (by omega)
          clear c12
          by_cases c16 : (((rd_T27 l0_2 x18_2).f4).size : Int) > 100
          ·rw [if_pos c16] at H
           have c16b0 : decide (100 < (((rd_T27 l0_2 x18_2).f4).size : Int)) = true := decide_eq_true c16
           have c16b1 : decide (100 < ((rd_T27 l0_2 x18_2).f4).size) = true := decide_eq_true (by omega)
           clear c16
           obtain rfl := Option.some.inj H
           have p110 : 0 ≤ (x18_2 : Int) := of_decide_eq_true (by first | (with_reducible assumption) | assumption)
           have q110 : x18_2 < (l0_2.length : Int) := of_decide_eq_true (by first | (with_reducible assumption) | assumption)
           obtain ⟨ad110, A110_3, c110_3, e110, hx110_0, hx110_1, hx110_2, hx110_3, hx110_4, hx110_5, hl110_3, hi110_3⟩ := at_T27 HR0_2.out x18_2 p110 q110
           cases e110
           replace hx110_0 := (HB.out.cell (World.block_lt_of_cell? w _ hx110_0)).trans hx110_0
           replace hx110_1 := (HB.out.cell (World.block_lt_of_cell? w _ hx110_1)).trans hx110_1
           replace hx110_2 := (HB.out.cell (World.block_lt_of_cell? w _ hx110_2)).trans hx110_2
           replace hx110_3 := (HB.out.cell (World.block_lt_of_cell? w _ hx110_3)).trans hx110_3
           replace hx110_4 := (HB.out.cell (World.block_lt_of_cell? w _ hx110_4)).trans hx110_4
           replace hx110_5 := (HB.out.cell (World.block_lt_of_cell? w _ hx110_5)).trans hx110_5
           have HR110_3 := Aside0.mk hi110_3
           have HC110_3 := Aside0.mk hl110_3
           clear hi110_3 hl110_3
           replace p110 := eq_true p110
           replace q110 := eq_true q110
           go_wp2_with (first | ((with_reducible refine gate_dst (N := 4) rfl ?_); refine box_event ?hg (N := 4) ?hd (cs := #[.bool false, .bool false, .bool false, .slice none 0 0, .string (⟨#[]⟩ : ByteArray), .int .u64 0]) (t := 27) ?hr ?_; (case hd => rfl); (case hg => rfl); (case hr => first | (go_simp; done) | (go_simp; rfl)); intro gb111 hg w17 hbox hb; have n0_ := Aside0.mk (blk_below (g := gb109) (o := .cells #[.bool a0_0, .slice A0_1 l0_1.length c0_1, .slice (some ad110) l0_2.length c0_2] 36 (0, 0)) (by (with_reducible repeat (first | refine blk_drewN ?_ _ | refine blk_drew ?_ | refine blk_alloc ?_ _)); exact BK109.out) hb); have n1_ := Aside0.mk (below_step (by repeat (first | (with_reducible first | exact HB.out | apply below_alloc | apply pw_below_drewN | apply below_drew1 | refine below_set ?_ GE109.out) | exact HB.out)) hb); have n2_ := Aside0.mk (hbox); have n3_ := Aside0.mk ((by rw [hg]; exact (below_size (by repeat (first | (with_reducible first | exact HB.out | apply below_alloc | apply pw_below_drewN | apply below_drew1 | refine below_set ?_ GE109.out) | exact HB.out))) : w.heap.size ≤ gb111)); have n4_ := Aside0.mk ((by rw [hg]; exact (below_size (by repeat (first | (with_reducible first | exact HB.out | apply below_alloc | apply pw_below_drewN | apply below_drew1 | refine below_set ?_ GE109.out) | exact HB.out))) : w.heap.size ≤ gb111)); have n5_ := Aside0.mk ((by rw [hg]; exact Nat.ne_of_lt (blk_lt (g := gb109) (o := .cells #[.bool a0_0, .slice A0_1 l0_1.length c0_1, .slice (some ad110) l0_2.length c0_2] 36 (0, 0)) (by (with_reducible repeat (first | refine blk_drewN ?_ _ | refine blk_drew ?_ | refine blk_alloc ?_ _)); exact BK109.out)) : gb109 ≠ gb111)); have n6_ := Aside0.mk ((by rw [hg]; exact Nat.ne_of_gt (blk_lt (g := gb109) (o := .cells #[.bool a0_0, .slice A0_1 l0_1.length c0_1, .slice (some ad110) l0_2.length c0_2] 36 (0, 0)) (by (with_reducible repeat (first | refine blk_drewN ?_ _ | refine blk_drew ?_ | refine blk_alloc ?_ _)); exact BK109.out)) : gb111 ≠ gb109)); clear BK109; clear HB; have BK109 := n0_; have HB := n1_; have BK111 := n2_; have GW111 := n3_; have GE111 := n4_; have NB109_111 := n5_; have NB111_109 := n6_; clear n0_ n1_ n2_ n3_ n4_ n5_ n6_; clear hb hbox hg; have hnb18 := NB111_109.out; have hnc18 := NB109_111.out; have hcz19_0 : w17.cell? ⟨gb111, 0, none⟩ = some (.bool false) := (blk_cell BK111.out 0).trans rfl; have hcz19_1 : w17.cell? ⟨gb111, 1, none⟩ = some (.bool false) := (blk_cell BK111.out 1).trans rfl; have hcz19_2 : w17.cell? ⟨gb111, 2, none⟩ = some (.bool false) := (blk_cell BK111.out 2).trans rfl; have hcz19_3 : w17.cell? ⟨gb111, 3, none⟩ = some (.slice none 0 0) := (blk_cell BK111.out 3).trans rfl; have hcz19_4 : w17.cell? ⟨gb111, 4, none⟩ = some (.string (⟨#[]⟩ : ByteArray)) := (blk_cell BK111.out 4).trans rfl; have hcz19_5 : w17.cell? ⟨gb111, 5, none⟩ = some (.int .u64 0) := (blk_cell BK111.out 5).trans rfl; have hfz19_0 := blk_frozen BK111.out 0; have hfz19_1 := blk_frozen BK111.out 1; have hfz19_2 := blk_frozen BK111.out 2; have hfz19_3 := blk_frozen BK111.out 3; have hfz19_4 := blk_frozen BK111.out 4; have hfz19_5 := blk_frozen BK111.out 5))
           go_ret
           exact ⟨by first | rfl | (simp [errV_none, errV_some] <;> rfl) | (simp [*, errV_none, errV_some] <;> rfl), by repeat (first | (with_reducible first | exact HB.out | apply below_alloc | apply pw_below_drewN | apply below_drew1 | refine below_set ?_ GE109.out | refine below_set ?_ GE111.out) | exact HB.out)⟩
          ·rw [if_neg c16] at H
           have c16b0 : decide (100 < (((rd_T27 l0_2 x18_2).f4).size : Int)) = false := decide_eq_false c16
           have c16b1 : decide (100 < ((rd_T27 l0_2 x18_2).f4).size) = false := decide_eq_false (by omega)
           clear c16
           have H' := Aside0.mk H
           clear H
           have p110 : 0 ≤ (x18_2 : Int) := of_decide_eq_true (by first | (with_reducible assumption) | assumption)
           have q110 : x18_2 < (l0_2.length : Int) := of_decide_eq_true (by first | (with_reducible assumption) | assumption)
           obtain ⟨ad110, A110_3, c110_3, e110, hx110_0, hx110_1, hx110_2, hx110_3, hx110_4, hx110_5, hl110_3, hi110_3⟩ := at_T27 HR0_2.out x18_2 p110 q110
           cases e110
           replace hx110_0 := (HB.out.cell (World.block_lt_of_cell? w _ hx110_0)).trans hx110_0
           replace hx110_1 := (HB.out.cell (World.block_lt_of_cell? w _ hx110_1)).trans hx110_1
           replace hx110_2 := (HB.out.cell (World.block_lt_of_cell? w _ hx110_2)).trans hx110_2
           replace hx110_3 := (HB.out.cell (World.block_lt_of_cell? w _ hx110_3)).trans hx110_3
           replace hx110_4 := (HB.out.cell (World.block_lt_of_cell? w _ hx110_4)).trans hx110_4
           replace hx110_5 := (HB.out.cell (World.block_lt_of_cell? w _ hx110_5)).trans hx110_5
           have HR110_3 := Aside0.mk hi110_3
           have HC110_3 := Aside0.mk hl110_3
           clear hi110_3 hl110_3
           replace p110 := eq_true p110
           replace q110 := eq_true q110
           go_wp2_with (first | ((with_reducible refine gate_dst (N := 4) rfl ?_); refine box_event ?hg (N := 4) ?hd (cs := #[.bool false, .bool false, .bool false, .slice none 0 0, .string (⟨#[]⟩ : ByteArray), .int .u64 0]) (t := 27) ?hr ?_; (case hd => rfl); (case hg => rfl); (case hr => first | (go_simp; done) | (go_simp; rfl)); intro gb111 hg w20 hbox hb; have n0_ := Aside0.mk (blk_below (g := gb109) (o := .cells #[.bool a0_0, .slice A0_1 l0_1.length c0_1, .slice (some ad110) l0_2.length c0_2] 36 (0, 0)) (by (with_reducible repeat (first | refine blk_drewN ?_ _ | refine blk_drew ?_ | refine blk_alloc ?_ _)); exact BK109.out) hb); have n1_ := Aside0.mk (below_step (by repeat (first | (with_reducible first | exact HB.out | apply below_alloc | apply pw_below_drewN | apply below_drew1 | refine below_set ?_ GE109.out) | exact HB.out)) hb); have n2_ := Aside0.mk (hbox); have n3_ := Aside0.mk ((by rw [hg]; exact (below_size (by repeat (first | (with_reducible first | exact HB.out | apply below_alloc | apply pw_below_drewN | apply below_drew1 | refine below_set ?_ GE109.out) | exact HB.out))) : w.heap.size ≤ gb111)); have n4_ := Aside0.mk ((by rw [hg]; exact (below_size (by repeat (first | (with_reducible first | exact HB.out | apply below_alloc | apply pw_below_drewN | apply below_drew1 | refine below_set ?_ GE109.out) | exact HB.out))) : w.heap.size ≤ gb111)); have n5_ := Aside0.mk ((by rw [hg]; exact Nat.ne_of_lt (blk_lt (g := gb109) (o := .cells #[.bool a0_0, .slice A0_1 l0_1.length c0_1, .slice (some ad110) l0_2.length c0_2] 36 (0, 0)) (by (with_reducible repeat (first | refine blk_drewN ?_ _ | refine blk_drew ?_ | refine blk_alloc ?_ _)); exact BK109.out)) : gb109 ≠ gb111)); have n6_ := Aside0.mk ((by rw [hg]; exact Nat.ne_of_gt (blk_lt (g := gb109) (o := .cells #[.bool a0_0, .slice A0_1 l0_1.length c0_1, .slice (some ad110) l0_2.length c0_2] 36 (0, 0)) (by (with_reducible repeat (first | refine blk_drewN ?_ _ | refine blk_drew ?_ | refine blk_alloc ?_ _)); exact BK109.out)) : gb111 ≠ gb109)); clear BK109; clear HB; have BK109 := n0_; have HB := n1_; have BK111 := n2_; have GW111 := n3_; have GE111 := n4_; have NB109_111 := n5_; have NB111_109 := n6_; clear n0_ n1_ n2_ n3_ n4_ n5_ n6_; clear hb hbox hg; have hnb21 := NB111_109.out; have hnc21 := NB109_111.out; have hcz22_0 : w20.cell? ⟨gb111, 0, none⟩ = some (.bool false) := (blk_cell BK111.out 0).trans rfl; have hcz22_1 : w20.cell? ⟨gb111, 1, none⟩ = some (.bool false) := (blk_cell BK111.out 1).trans rfl; have hcz22_2 : w20.cell? ⟨gb111, 2, none⟩ = some (.bool false) := (blk_cell BK111.out 2).trans rfl; have hcz22_3 : w20.cell? ⟨gb111, 3, none⟩ = some (.slice none 0 0) := (blk_cell BK111.out 3).trans rfl; have hcz22_4 : w20.cell? ⟨gb111, 4, none⟩ = some (.string (⟨#[]⟩ : ByteArray)) := (blk_cell BK111.out 4).trans rfl; have hcz22_5 : w20.cell? ⟨gb111, 5, none⟩ = some (.int .u64 0) := (blk_cell BK111.out 5).trans rfl; have hfz22_0 := blk_frozen BK111.out 0; have hfz22_1 := blk_frozen BK111.out 1; have hfz22_2 := blk_frozen BK111.out 2; have hfz22_3 := blk_frozen BK111.out 3; have hfz22_4 := blk_frozen BK111.out 4; have hfz22_5 := blk_frozen BK111.out 5))
           go_roundg k2
           case measure => have := HJ1.out; have := HK2.out; omega
           case rel => exact ⟨(wrap64 (x18_2 + 1)), (by first | rfl | (simp; done) | (simp [*]; done)), H', ⟨by have := HJ1.out; have := HK2.out; omega⟩, ⟨by (with_reducible repeat (first | refine blk_drewN ?_ _ | refine blk_drew ?_ | refine blk_alloc ?_ _)); refine blk_far ?_ NB109_111.out _; (with_reducible repeat (first | refine blk_drewN ?_ _ | refine blk_drew ?_ | refine blk_alloc ?_ _)); refine blk_far ?_ NB109_111.out _; (with_reducible repeat (first | refine blk_drewN ?_ _ | refine blk_drew ?_ | refine blk_alloc ?_ _)); refine blk_far ?_ NB109_111.out _; (with_reducible repeat (first | refine blk_drewN ?_ _ | refine blk_drew ?_ | refine blk_alloc ?_ _)); refine blk_far ?_ NB109_111.out _; (with_reducible repeat (first | refine blk_drewN ?_ _ | refine blk_drew ?_ | refine blk_alloc ?_ _)); refine blk_far ?_ NB109_111.out _; (with_reducible repeat (first | refine blk_drewN ?_ _ | refine blk_drew ?_ | refine blk_alloc ?_ _)); refine blk_far ?_ NB109_111.out _; (with_reducible repeat (first | refine blk_drewN ?_ _ | refine blk_drew ?_ | refine blk_alloc ?_ _)); exact BK109.out⟩, ⟨by repeat (first | (with_reducible first | exact HB.out | apply below_alloc | apply pw_below_drewN | apply below_drew1 | refine below_set ?_ GE109.out | refine below_set ?_ GE111.out) | exact HB.out)⟩⟩
        ·rw [if_neg c11] at H
         exact absurd H (by simp)
       ·rw [if_neg c10] at H
        exact absurd H (by simp)
      ·rw [if_neg c9] at H
       have c9b0 : decide (x18_2 < (l0_2.length : Int)) = false := decide_eq_false c9
       clear c9
       obtain rfl := Option.some.inj H
       go_wp2
       go_ret
       exact ⟨by first | rfl | (simp [errV_none, errV_some] <;> rfl) | (simp [*, errV_none, errV_some] <;> rfl), by repeat (first | (with_reducible first | exact HB.out | apply below_alloc | apply pw_below_drewN | apply below_drew1 | refine below_set ?_ GE109.out) | exact HB.out)⟩

end Go.Proofs.YtnhnlodmkbiiiaaDoor.PPbJoin
