/- Printed by a program of this session (it drives the print of the kit, with contracts proved by hand beside): the Go functions of one law as Lean functions, and that the Go code comes to what they say. -/
import Derived.Test.YtnhnlodmkbiiiaaDoorRPScrx0
namespace Go.Proofs.YtnhnlodmkbiiiaaDoor.PScr
open Go.RowKit Go.Proofs.YtnhnlodmkbiiiaaDoorL Go.Proofs.YtnhnlodmkbiiiaaDoorW.PrintWords Go.Proofs.YtnhnlodmkbiiiaaDoorW.PrintLast Go.Proofs.YtnhnlodmkbiiiaaDoorW.PrintMore
attribute [local go_sem] max2_int min2_int max_two min_two max_three min_three max_four min_four   -- for this text's walks alone
set_option linter.unusedVariables false
set_option linter.unusedSimpArgs false

/-! ### spec_SizeOf: function 73 -/
def spec_SizeOf.j0 : Nat → Int → Bool → Int → List Int → Int → List Int → Int → Int → Option (Int × Bool)
 | 0, _, _, _, _, _, _, _, _ => none
 | k + 1, x5, x6, x115000, x115001, x115002, x115003, x115004, x115005 => if x6 = true then (some (x115002, true)) else (if x5 = 4 then (some (IntKind.u64.wrap ((x115001.length : Int)), true)) else (some (0, false)))
def spec_SizeOf.f (k : Nat) (a0_0 : Int) (l0_1 : List Int) (a0_2 : Int) (l0_3 : List Int) (a0_4 : Int) (a0_5 : Int) : Option (Int × Bool) := if a0_0 = 0 then (spec_SizeOf.j0 k a0_0 (a0_0 == 0) a0_0 l0_1 a0_2 l0_3 a0_4 a0_5) else (spec_SizeOf.j0 k a0_0 (a0_0 == 2) a0_0 l0_1 a0_2 l0_3 a0_4 a0_5)
set_option maxHeartbeats 8000000 in
set_option maxRecDepth 100000 in
theorem spec_SizeOf.calls (k : Nat) (a0_0 : Int) (A0_1 : Option Addr) (c0_1 : Nat) (l0_1 : List Int) (a0_2 : Int) (A0_3 : Option Addr) (c0_3 : Nat) (l0_3 : List Int) (a0_4 : Int) (a0_5 : Int) (r1 : Int) (r2 : Bool) (w : World) (hr0_1 : Kd.C (Kd.int .u8) w A0_1 l0_1.length l0_1) (hc0_1 : l0_1.length ≤ c0_1) (hr0_3 : Kd.C (Kd.int .u64) w A0_3 l0_3.length l0_3) (hc0_3 : l0_3.length ≤ c0_3) (h : spec_SizeOf.f k a0_0 l0_1 a0_2 l0_3 a0_4 a0_5 = some (r1, r2)) :
  Calls Tryd.prog 73 #[.agg #[.int .i64 a0_0, .slice A0_1 l0_1.length c0_1, .int .u64 a0_2, .slice A0_3 l0_3.length c0_3, .int .u64 a0_4, .int .u64 a0_5]] w fun e w' => e = .returned (.tuple #[.int .u64 r1, .bool r2]) ∧ Below w.heap.size w w' := by
 have hu56 := Tryd.underlying56
 have HR0_1 := Aside0.mk hr0_1
 have HC0_1 := Aside0.mk hc0_1
 clear hr0_1 hc0_1
 have HR0_3 := Aside0.mk hr0_3
 have HC0_3 := Aside0.mk hc0_3
 clear hr0_3 hc0_3
 have HB := Aside0.mk (Below.refl w.heap.size w)
 have H : (if a0_0 = 0 then (spec_SizeOf.j0 k a0_0 (a0_0 == 0) a0_0 l0_1 a0_2 l0_3 a0_4 a0_5) else (spec_SizeOf.j0 k a0_0 (a0_0 == 2) a0_0 l0_1 a0_2 l0_3 a0_4 a0_5)) = some (r1, r2) := h
 clear h
 have HC2 := Aside0.mk H
 clear H
 go_enter Tryd.func73, Tryd.ntmps73
 go_upto_if 6 with (first | ((with_reducible refine gate_dst (N := 1) rfl ?_); refine box_event ?hg (N := 1) ?hd (cs := #[.int .i64 a0_0, .slice A0_1 l0_1.length c0_1, .int .u64 a0_2, .slice A0_3 l0_3.length c0_3, .int .u64 a0_4, .int .u64 a0_5]) (t := 56) ?hr ?_; (case hd => rfl); (case hg => rfl); (case hr => first | (go_simp; done) | (go_simp; rfl)); intro gb114 hg w3 hbox hb; have n0_ := Aside0.mk (below_step (by repeat (first | (with_reducible first | exact HB.out | apply below_alloc | apply pw_below_drewN | apply below_drew1) | exact HB.out)) hb); have n1_ := Aside0.mk (hbox); have n2_ := Aside0.mk ((by rw [hg]; exact (below_size (by repeat (first | (with_reducible first | exact HB.out | apply below_alloc | apply pw_below_drewN | apply below_drew1) | exact HB.out))) : w.heap.size ≤ gb114)); have n3_ := Aside0.mk ((by rw [hg]; exact (below_size (by repeat (first | (with_reducible first | exact HB.out | apply below_alloc | apply pw_below_drewN | apply below_drew1) | exact HB.out))) : w.heap.size ≤ gb114)); clear HB; have HB := n0_; have BK114 := n1_; have GW114 := n2_; have GE114 := n3_; clear n0_ n1_ n2_ n3_; clear hb hbox hg; have hcz4_0 : w3.cell? ⟨gb114, 0, none⟩ = some (.int .i64 a0_0) := (blk_cell BK114.out 0).trans rfl; have hcz4_1 : w3.cell? ⟨gb114, 1, none⟩ = some (.slice A0_1 l0_1.length c0_1) := (blk_cell BK114.out 1).trans rfl; have hcz4_2 : w3.cell? ⟨gb114, 2, none⟩ = some (.int .u64 a0_2) := (blk_cell BK114.out 2).trans rfl; have hcz4_3 : w3.cell? ⟨gb114, 3, none⟩ = some (.slice A0_3 l0_3.length c0_3) := (blk_cell BK114.out 3).trans rfl; have hcz4_4 : w3.cell? ⟨gb114, 4, none⟩ = some (.int .u64 a0_4) := (blk_cell BK114.out 4).trans rfl; have hcz4_5 : w3.cell? ⟨gb114, 5, none⟩ = some (.int .u64 a0_5) := (blk_cell BK114.out 5).trans rfl; have hfz4_0 := blk_frozen BK114.out 0; have hfz4_1 := blk_frozen BK114.out 1; have hfz4_2 := blk_frozen BK114.out 2; have hfz4_3 := blk_frozen BK114.out 3; have hfz4_4 := blk_frozen BK114.out 4; have hfz4_5 := blk_frozen BK114.out 5))
 (try simp only [Act.put, List.setIfInBounds_toArray, List.set_cons_zero, List.set_cons_succ])
 go_cut [6] (fun v6 wc => ∃ (kq : Nat) (x6_1 : Bool), v6 = .bool x6_1 ∧ Aside0 (spec_SizeOf.j0 kq a0_0 x6_1 a0_0 l0_1 a0_2 l0_3 a0_4 a0_5 = some (r1, r2)) ∧ Aside0 (kq ≤ k) ∧ Aside0 (wc.heap[gb114]? = some (.cells #[.int .i64 a0_0, (.slice A0_1 l0_1.length c0_1), .int .u64 a0_2, (.slice A0_3 l0_3.length c0_3), .int .u64 a0_4, .int .u64 a0_5] 56 (0, 0))) ∧ Aside0 (Below w.heap.size w wc))
 case first =>
  have H := HC2.out
  clear HC2
  by_cases c5 : a0_0 = 0
  ·rw [if_pos c5] at H
   have c5b0 : (a0_0 == 0) = true := beq_iff_eq.mpr c5
   have c5b1 : (a0_0 != 0) = false := bne_eq_false_iff_eq.mpr c5
   clear c5
   (first | rw [c5b0] | (simp only [i64_w, i32_w]; rw [c5b0]) | skip)
   have H' := Aside0.mk H
   clear H
   go_wp2
   go_meet
   case rel => exact ⟨_, ((a0_0 == 0)), (by first | rfl | (simp; done) | (simp [*]; done)), H', ⟨by first | omega | exact Nat.le_refl _⟩, ⟨by (with_reducible repeat (first | refine blk_drewN ?_ _ | refine blk_drew ?_ | refine blk_alloc ?_ _)); exact BK114.out⟩, ⟨by repeat (first | (with_reducible first | exact HB.out | apply below_alloc | apply pw_below_drewN | apply below_drew1 | refine below_set ?_ GE114.out) | exact HB.out)⟩⟩
  ·rw [if_neg c5] at H
   have c5b0 : (a0_0 == 0) = false := beq_eq_false_iff_ne.mpr c5
   have c5b1 : (a0_0 != 0) = true := bne_iff_ne.mpr c5
   (first | rw [c5b0] | (simp only [i64_w, i32_w]; rw [c5b0]) | skip)
   have H' := Aside0.mk H
   clear H
   go_wp2
   go_meet
   case rel => exact ⟨_, ((a0_0 == 2)), (by first | rfl | (simp; done) | (simp [*]; done)), H', ⟨by first | omega | exact Nat.le_refl _⟩, ⟨by (with_reducible repeat (first | refine blk_drewN ?_ _ | refine blk_drew ?_ | refine blk_alloc ?_ _)); exact BK114.out⟩, ⟨by repeat (first | (with_reducible first | exact HB.out | apply below_alloc | apply pw_below_drewN | apply below_drew1 | refine below_set ?_ GE114.out) | exact HB.out)⟩⟩
 case rest =>
  clear HC2
  try clear p2
  try clear c5
  try clear c5b0
  try clear c5b1
  try clear hcz4_0
  try clear hcz4_1
  try clear hcz4_2
  try clear hcz4_3
  try clear hcz4_4
  try clear hcz4_5
  try clear hfz4_0
  try clear hfz4_1
  try clear hfz4_2
  try clear hfz4_3
  try clear hfz4_4
  try clear hfz4_5
  obtain ⟨kq, x6_1, rfl, HA, HJ1, BK114, HB⟩ := hcut
  cases kq with
  | zero => exact absurd HA.out (by simp [spec_SizeOf.j0])
  | succ kj1 =>
   have H := HA.out
   clear HA
   simp only [spec_SizeOf.j0] at H
   by_cases c6 : x6_1 = true
   ·subst c6
    have H1 : (some (a0_2, true)) = some (r1, r2) := by rw [if_pos rfl] at H; exact H
    clear H
    have H := H1
    clear H1
    simp only [Option.some.injEq, Prod.mk.injEq] at H
    obtain ⟨rfl, rfl⟩ := H
    have hcz7_0 : wc.cell? ⟨gb114, 0, none⟩ = some (.int .i64 a0_0) := (blk_cell BK114.out 0).trans rfl
    have hcz7_1 : wc.cell? ⟨gb114, 1, none⟩ = some (.slice A0_1 l0_1.length c0_1) := (blk_cell BK114.out 1).trans rfl
    have hcz7_2 : wc.cell? ⟨gb114, 2, none⟩ = some (.int .u64 a0_2) := (blk_cell BK114.out 2).trans rfl
    have hcz7_3 : wc.cell? ⟨gb114, 3, none⟩ = some (.slice A0_3 l0_3.length c0_3) := (blk_cell BK114.out 3).trans rfl
    have hcz7_4 : wc.cell? ⟨gb114, 4, none⟩ = some (.int .u64 a0_4) := (blk_cell BK114.out 4).trans rfl
    have hcz7_5 : wc.cell? ⟨gb114, 5, none⟩ = some (.int .u64 a0_5) := (blk_cell BK114.out 5).trans rfl
    have hfz7_0 := blk_frozen BK114.out 0
    have hfz7_1 := blk_frozen BK114.out 1
    have hfz7_2 := blk_frozen BK114.out 2
    have hfz7_3 := blk_frozen BK114.out 3
    have hfz7_4 := blk_frozen BK114.out 4
    have hfz7_5 := blk_frozen BK114.out 5
    go_wp2
    go_ret2
    exact ⟨by first | rfl | (simp [errV_none, errV_some] <;> rfl) | (simp [*, errV_none, errV_some] <;> rfl), by repeat (first | (with_reducible first | exact HB.out | apply below_alloc | apply pw_below_drewN | apply below_drew1 | refine below_set ?_ GE114.out) | exact HB.out)⟩
   ·replace c6 := Bool.eq_false_iff.mpr c6
    subst c6
    have H1 : (if a0_0 = 4 then (some (IntKind.u64.wrap ((l0_1.length : Int)), true)) else (some (0, false))) = some (r1, r2) := by rw [if_neg (show ¬ (false = true) by decide)] at H; exact H
    clear H
    have H := H1
    clear H1
    by_cases c8 : a0_0 = 4
    ·rw [if_pos c8] at H
     have c8b0 : (a0_0 == 4) = true := beq_iff_eq.mpr c8
     have c8b1 : (a0_0 != 4) = false := bne_eq_false_iff_eq.mpr c8
     clear c8
     simp only [Option.some.injEq, Prod.mk.injEq] at H
     obtain ⟨rfl, rfl⟩ := H
     have hcz9_0 : wc.cell? ⟨gb114, 0, none⟩ = some (.int .i64 a0_0) := (blk_cell BK114.out 0).trans rfl
     have hcz9_1 : wc.cell? ⟨gb114, 1, none⟩ = some (.slice A0_1 l0_1.length c0_1) := (blk_cell BK114.out 1).trans rfl
     have hcz9_2 : wc.cell? ⟨gb114, 2, none⟩ = some (.int .u64 a0_2) := (blk_cell BK114.out 2).trans rfl
     have hcz9_3 : wc.cell? ⟨gb114, 3, none⟩ = some (.slice A0_3 l0_3.length c0_3) := (blk_cell BK114.out 3).trans rfl
     have hcz9_4 : wc.cell? ⟨gb114, 4, none⟩ = some (.int .u64 a0_4) := (blk_cell BK114.out 4).trans rfl
     have hcz9_5 : wc.cell? ⟨gb114, 5, none⟩ = some (.int .u64 a0_5) := (blk_cell BK114.out 5).trans rfl
     have hfz9_0 := blk_frozen BK114.out 0
     have hfz9_1 := blk_frozen BK114.out 1
     have hfz9_2 := blk_frozen BK114.out 2
     have hfz9_3 := blk_frozen BK114.out 3
     have hfz9_4 := blk_frozen BK114.out 4
     have hfz9_5 := blk_frozen BK114.out 5
     go_wp2
     go_ret2
     exact ⟨by first | rfl | (simp [errV_none, errV_some] <;> rfl) | (simp [*, errV_none, errV_some] <;> rfl), by repeat (first | (with_reducible first | exact HB.out | apply below_alloc | apply pw_below_drewN | apply below_drew1 | refine below_set ?_ GE114.out) | exact HB.out)⟩
    ·rw [if_neg c8] at H
     have c8b0 : (a0_0 == 4) = false := beq_eq_false_iff_ne.mpr c8
     have c8b1 : (a0_0 != 4) = true := bne_iff_ne.mpr c8
     simp only [Option.some.injEq, Prod.mk.injEq] at H
     obtain ⟨rfl, rfl⟩ := H
     go_wp2
     go_ret2
     exact ⟨by first | rfl | (simp [errV_none, errV_some] <;> rfl) | (simp [*, errV_none, errV_some] <;> rfl), by repeat (first | (with_reducible first | exact HB.out | apply below_alloc | apply pw_below_drewN | apply below_drew1 | refine below_set ?_ GE114.out) | exact HB.out)⟩

/-! ### spec_Told: function 34, by hand -/
-- HAND pub-tholos/spec.Told
-- making: yes
-- rounds: yes
-- share: 0.1 0.3
-- rsh: 1 3
/-- A message with the size of its contents. -/
def spec_Told.f (k : Nat) (a0_0 : Int) (l0_1 : List Int) (a0_2 : Int) (l0_3 : List Int) (a0_4 : Int) (a0_5 : Int) : Option (Int × List Int × Int × List Int × Int × Int) := (spec_SizeOf.f k a0_0 l0_1 a0_2 l0_3 a0_4 a0_5).bind fun bt122 => (some (a0_0, l0_1, bt122.1, l0_3, a0_4, a0_5))
/-! ### laws_zzFits2: function 74 -/
def laws_zzFits2.f (a0_0 : Int) (l0_1 : List Int) (a0_2 : Int) (a0_3 : Int) : Option (Bool) := if (l0_1.length : Int) > 2147483647 then (some false) else (some true)
set_option maxHeartbeats 8000000 in
set_option maxRecDepth 100000 in
theorem laws_zzFits2.calls (a0_0 : Int) (A0_1 : Option Addr) (c0_1 : Nat) (l0_1 : List Int) (a0_2 : Int) (a0_3 : Int) (r : Bool) (w : World) (hr0_1 : Kd.C (Kd.int .u8) w A0_1 l0_1.length l0_1) (hc0_1 : l0_1.length ≤ c0_1) (h : laws_zzFits2.f a0_0 l0_1 a0_2 a0_3 = some r) :
  Calls Tryd.prog 74 #[.agg #[.int .i64 a0_0, .slice A0_1 l0_1.length c0_1, .int .u64 a0_2, .int .i64 a0_3]] w fun e w' => e = .returned (.bool r) ∧ Below w.heap.size w w' := by
 have hu65 := Tryd.underlying65
 have HR0_1 := Aside0.mk hr0_1
 have HC0_1 := Aside0.mk hc0_1
 clear hr0_1 hc0_1
 have HB := Aside0.mk (Below.refl w.heap.size w)
 have H : (if (l0_1.length : Int) > 2147483647 then (some false) else (some true)) = some r := h
 clear h
 by_cases c2 : (l0_1.length : Int) > 2147483647
 ·rw [if_pos c2] at H
  have c2b0 : decide (2147483647 < (l0_1.length : Int)) = true := decide_eq_true c2
  have c2b1 : decide (2147483647 < l0_1.length) = true := decide_eq_true (by omega)
  clear c2
  obtain rfl := Option.some.inj H
  go_enter Tryd.func74, Tryd.ntmps74
  go_wp2_with (first | ((with_reducible refine gate_dst (N := 1) rfl ?_); refine box_event ?hg (N := 1) ?hd (cs := #[.int .i64 a0_0, .slice A0_1 l0_1.length c0_1, .int .u64 a0_2, .int .i64 a0_3]) (t := 65) ?hr ?_; (case hd => rfl); (case hg => rfl); (case hr => first | (go_simp; done) | (go_simp; rfl)); intro gb115 hg w3 hbox hb; have n0_ := Aside0.mk (below_step (by repeat (first | (with_reducible first | exact HB.out | apply below_alloc | apply pw_below_drewN | apply below_drew1) | exact HB.out)) hb); have n1_ := Aside0.mk (hbox); have n2_ := Aside0.mk ((by rw [hg]; exact (below_size (by repeat (first | (with_reducible first | exact HB.out | apply below_alloc | apply pw_below_drewN | apply below_drew1) | exact HB.out))) : w.heap.size ≤ gb115)); have n3_ := Aside0.mk ((by rw [hg]; exact (below_size (by repeat (first | (with_reducible first | exact HB.out | apply below_alloc | apply pw_below_drewN | apply below_drew1) | exact HB.out))) : w.heap.size ≤ gb115)); clear HB; have HB := n0_; have BK115 := n1_; have GW115 := n2_; have GE115 := n3_; clear n0_ n1_ n2_ n3_; clear hb hbox hg; have hcz4_0 : w3.cell? ⟨gb115, 0, none⟩ = some (.int .i64 a0_0) := (blk_cell BK115.out 0).trans rfl; have hcz4_1 : w3.cell? ⟨gb115, 1, none⟩ = some (.slice A0_1 l0_1.length c0_1) := (blk_cell BK115.out 1).trans rfl; have hcz4_2 : w3.cell? ⟨gb115, 2, none⟩ = some (.int .u64 a0_2) := (blk_cell BK115.out 2).trans rfl; have hcz4_3 : w3.cell? ⟨gb115, 3, none⟩ = some (.int .i64 a0_3) := (blk_cell BK115.out 3).trans rfl; have hfz4_0 := blk_frozen BK115.out 0; have hfz4_1 := blk_frozen BK115.out 1; have hfz4_2 := blk_frozen BK115.out 2; have hfz4_3 := blk_frozen BK115.out 3))
  go_ret
  exact ⟨by first | rfl | (simp [errV_none, errV_some] <;> rfl) | (simp [*, errV_none, errV_some] <;> rfl), by repeat (first | (with_reducible first | exact HB.out | apply below_alloc | apply pw_below_drewN | apply below_drew1 | refine below_set ?_ GE115.out) | exact HB.out)⟩
 ·rw [if_neg c2] at H
  have c2b0 : decide (2147483647 < (l0_1.length : Int)) = false := decide_eq_false c2
  have c2b1 : decide (2147483647 < l0_1.length) = false := decide_eq_false (by omega)
  clear c2
  obtain rfl := Option.some.inj H
  go_enter Tryd.func74, Tryd.ntmps74
  go_wp2_with (first | ((with_reducible refine gate_dst (N := 1) rfl ?_); refine box_event ?hg (N := 1) ?hd (cs := #[.int .i64 a0_0, .slice A0_1 l0_1.length c0_1, .int .u64 a0_2, .int .i64 a0_3]) (t := 65) ?hr ?_; (case hd => rfl); (case hg => rfl); (case hr => first | (go_simp; done) | (go_simp; rfl)); intro gb115 hg w5 hbox hb; have n0_ := Aside0.mk (below_step (by repeat (first | (with_reducible first | exact HB.out | apply below_alloc | apply pw_below_drewN | apply below_drew1) | exact HB.out)) hb); have n1_ := Aside0.mk (hbox); have n2_ := Aside0.mk ((by rw [hg]; exact (below_size (by repeat (first | (with_reducible first | exact HB.out | apply below_alloc | apply pw_below_drewN | apply below_drew1) | exact HB.out))) : w.heap.size ≤ gb115)); have n3_ := Aside0.mk ((by rw [hg]; exact (below_size (by repeat (first | (with_reducible first | exact HB.out | apply below_alloc | apply pw_below_drewN | apply below_drew1) | exact HB.out))) : w.heap.size ≤ gb115)); clear HB; have HB := n0_; have BK115 := n1_; have GW115 := n2_; have GE115 := n3_; clear n0_ n1_ n2_ n3_; clear hb hbox hg; have hcz6_0 : w5.cell? ⟨gb115, 0, none⟩ = some (.int .i64 a0_0) := (blk_cell BK115.out 0).trans rfl; have hcz6_1 : w5.cell? ⟨gb115, 1, none⟩ = some (.slice A0_1 l0_1.length c0_1) := (blk_cell BK115.out 1).trans rfl; have hcz6_2 : w5.cell? ⟨gb115, 2, none⟩ = some (.int .u64 a0_2) := (blk_cell BK115.out 2).trans rfl; have hcz6_3 : w5.cell? ⟨gb115, 3, none⟩ = some (.int .i64 a0_3) := (blk_cell BK115.out 3).trans rfl; have hfz6_0 := blk_frozen BK115.out 0; have hfz6_1 := blk_frozen BK115.out 1; have hfz6_2 := blk_frozen BK115.out 2; have hfz6_3 := blk_frozen BK115.out 3))
  go_ret
  exact ⟨by first | rfl | (simp [errV_none, errV_some] <;> rfl) | (simp [*, errV_none, errV_some] <;> rfl), by repeat (first | (with_reducible first | exact HB.out | apply below_alloc | apply pw_below_drewN | apply below_drew1 | refine below_set ?_ GE115.out) | exact HB.out)⟩

end Go.Proofs.YtnhnlodmkbiiiaaDoor.PScr
