/- Printed by a program of this session (it drives the print of the kit, with contracts proved by hand beside): the Go functions of one law as Lean functions, and that the Go code comes to what they say. -/
import Derived.Test.YtnhnlodmkbiiiaaDoorPPbWritex0
namespace Go.Proofs.YtnhnlodmkbiiiaaDoor.PPbWrite
open Go.RowKit Go.Proofs.YtnhnlodmkbiiiaaDoorL Go.Proofs.YtnhnlodmkbiiiaaDoorW.PrintWords Go.Proofs.YtnhnlodmkbiiiaaDoorW.PrintLast Go.Proofs.YtnhnlodmkbiiiaaDoorW.PrintMore
attribute [local go_sem] max2_int min2_int max_two min_two max_three min_three max_four min_four   -- for this text's walks alone
set_option linter.unusedVariables false
set_option linter.unusedSimpArgs false

/-! ### laws_zzFits22: function 16 -/
def laws_zzFits22.f (a0_0 : Bool) (a0_1 : Bool) (a0_2 : Bool) (l0_3 : List Int) (a0_4 : ByteArray) (a0_5 : Int) : Option (Bool) := if (l0_3.length : Int) > 2147483647 then (some false) else (if (a0_4.size : Int) > 2147483647 then (some false) else (some true))
set_option maxHeartbeats 8000000 in
set_option maxRecDepth 100000 in
theorem laws_zzFits22.calls (a0_0 : Bool) (a0_1 : Bool) (a0_2 : Bool) (A0_3 : Option Addr) (c0_3 : Nat) (l0_3 : List Int) (a0_4 : ByteArray) (a0_5 : Int) (r : Bool) (w : World) (hr0_3 : Kd.C (Kd.int .u8) w A0_3 l0_3.length l0_3) (hc0_3 : l0_3.length ≤ c0_3) (h : laws_zzFits22.f a0_0 a0_1 a0_2 l0_3 a0_4 a0_5 = some r) :
    Calls Tryd.prog 16 #[.agg #[.bool a0_0, .bool a0_1, .bool a0_2, .slice A0_3 l0_3.length c0_3, .string a0_4, .int .u64 a0_5]] w fun e w' => e = .returned (.bool r) ∧ Below w.heap.size w w' := by
  have hu27 := Tryd.underlying27
  have HR0_3 := Aside0.mk hr0_3
  have HC0_3 := Aside0.mk hc0_3
  clear hr0_3 hc0_3
  have HB := Aside0.mk (Below.refl w.heap.size w)
  have H : (if (l0_3.length : Int) > 2147483647 then (some false) else (if (a0_4.size : Int) > 2147483647 then (some false) else (some true))) = some r := h
  clear h
  by_cases c2 : (l0_3.length : Int) > 2147483647
  · rw [if_pos c2] at H
    have c2b0 : decide (2147483647 < (l0_3.length : Int)) = true := decide_eq_true c2
    have c2b1 : decide (2147483647 < l0_3.length) = true := decide_eq_true (by omega)
    clear c2
    obtain rfl := Option.some.inj H
    go_enter Tryd.func16, Tryd.ntmps16
    go_wp2_with (first | ((with_reducible refine gate_dst (N := 1) rfl ?_); refine box_event ?hg (N := 1) ?hd (cs := #[.bool a0_0, .bool a0_1, .bool a0_2, .slice A0_3 l0_3.length c0_3, .string a0_4, .int .u64 a0_5]) (t := 27) ?hr ?_; (case hd => rfl); (case hg => rfl); (case hr => first | (go_simp; done) | (go_simp; rfl)); intro gb133 hg w3 hbox hb; have n0_ := Aside0.mk (below_step (by repeat (first | (with_reducible first | exact HB.out | apply below_alloc | apply pw_below_drewN | apply below_drew1) | exact HB.out)) hb); have n1_ := Aside0.mk (hbox); have n2_ := Aside0.mk ((by rw [hg]; exact (below_size (by repeat (first | (with_reducible first | exact HB.out | apply below_alloc | apply pw_below_drewN | apply below_drew1) | exact HB.out))) : w.heap.size ≤ gb133)); have n3_ := Aside0.mk ((by rw [hg]; exact (below_size (by repeat (first | (with_reducible first | exact HB.out | apply below_alloc | apply pw_below_drewN | apply below_drew1) | exact HB.out))) : w.heap.size ≤ gb133)); clear HB; have HB := n0_; have BK133 := n1_; have GW133 := n2_; have GE133 := n3_; clear n0_ n1_ n2_ n3_; clear hb hbox hg; have hcz4_0 : w3.cell? ⟨gb133, 0, none⟩ = some (.bool a0_0) := (blk_cell BK133.out 0).trans rfl; have hcz4_1 : w3.cell? ⟨gb133, 1, none⟩ = some (.bool a0_1) := (blk_cell BK133.out 1).trans rfl; have hcz4_2 : w3.cell? ⟨gb133, 2, none⟩ = some (.bool a0_2) := (blk_cell BK133.out 2).trans rfl; have hcz4_3 : w3.cell? ⟨gb133, 3, none⟩ = some (.slice A0_3 l0_3.length c0_3) := (blk_cell BK133.out 3).trans rfl; have hcz4_4 : w3.cell? ⟨gb133, 4, none⟩ = some (.string a0_4) := (blk_cell BK133.out 4).trans rfl; have hcz4_5 : w3.cell? ⟨gb133, 5, none⟩ = some (.int .u64 a0_5) := (blk_cell BK133.out 5).trans rfl; have hfz4_0 := blk_frozen BK133.out 0; have hfz4_1 := blk_frozen BK133.out 1; have hfz4_2 := blk_frozen BK133.out 2; have hfz4_3 := blk_frozen BK133.out 3; have hfz4_4 := blk_frozen BK133.out 4; have hfz4_5 := blk_frozen BK133.out 5))
    go_ret
    exact ⟨by first | rfl | (simp [errV_none, errV_some] <;> rfl) | (simp [*, errV_none, errV_some] <;> rfl), by repeat (first | (with_reducible first | exact HB.out | apply below_alloc | apply pw_below_drewN | apply below_drew1 | refine below_set ?_ GE133.out) | exact HB.out)⟩
  · rw [if_neg c2] at H
    have c2b0 : decide (2147483647 < (l0_3.length : Int)) = false := decide_eq_false c2
    have c2b1 : decide (2147483647 < l0_3.length) = false := decide_eq_false (by omega)
    clear c2
    by_cases c5 : (a0_4.size : Int) > 2147483647
    · rw [if_pos c5] at H
      have c5b0 : decide (2147483647 < (a0_4.size : Int)) = true := decide_eq_true c5
      have c5b1 : decide (2147483647 < a0_4.size) = true := decide_eq_true (by omega)
      clear c5
      obtain rfl := Option.some.inj H
      go_enter Tryd.func16, Tryd.ntmps16
      go_wp2_with (first | ((with_reducible refine gate_dst (N := 1) rfl ?_); refine box_event ?hg (N := 1) ?hd (cs := #[.bool a0_0, .bool a0_1, .bool a0_2, .slice A0_3 l0_3.length c0_3, .string a0_4, .int .u64 a0_5]) (t := 27) ?hr ?_; (case hd => rfl); (case hg => rfl); (case hr => first | (go_simp; done) | (go_simp; rfl)); intro gb133 hg w6 hbox hb; have n0_ := Aside0.mk (below_step (by repeat (first | (with_reducible first | exact HB.out | apply below_alloc | apply pw_below_drewN | apply below_drew1) | exact HB.out)) hb); have n1_ := Aside0.mk (hbox); have n2_ := Aside0.mk ((by rw [hg]; exact (below_size (by repeat (first | (with_reducible first | exact HB.out | apply below_alloc | apply pw_below_drewN | apply below_drew1) | exact HB.out))) : w.heap.size ≤ gb133)); have n3_ := Aside0.mk ((by rw [hg]; exact (below_size (by repeat (first | (with_reducible first | exact HB.out | apply below_alloc | apply pw_below_drewN | apply below_drew1) | exact HB.out))) : w.heap.size ≤ gb133)); clear HB; have HB := n0_; have BK133 := n1_; have GW133 := n2_; have GE133 := n3_; clear n0_ n1_ n2_ n3_; clear hb hbox hg; have hcz7_0 : w6.cell? ⟨gb133, 0, none⟩ = some (.bool a0_0) := (blk_cell BK133.out 0).trans rfl; have hcz7_1 : w6.cell? ⟨gb133, 1, none⟩ = some (.bool a0_1) := (blk_cell BK133.out 1).trans rfl; have hcz7_2 : w6.cell? ⟨gb133, 2, none⟩ = some (.bool a0_2) := (blk_cell BK133.out 2).trans rfl; have hcz7_3 : w6.cell? ⟨gb133, 3, none⟩ = some (.slice A0_3 l0_3.length c0_3) := (blk_cell BK133.out 3).trans rfl; have hcz7_4 : w6.cell? ⟨gb133, 4, none⟩ = some (.string a0_4) := (blk_cell BK133.out 4).trans rfl; have hcz7_5 : w6.cell? ⟨gb133, 5, none⟩ = some (.int .u64 a0_5) := (blk_cell BK133.out 5).trans rfl; have hfz7_0 := blk_frozen BK133.out 0; have hfz7_1 := blk_frozen BK133.out 1; have hfz7_2 := blk_frozen BK133.out 2; have hfz7_3 := blk_frozen BK133.out 3; have hfz7_4 := blk_frozen BK133.out 4; have hfz7_5 := blk_frozen BK133.out 5))
      go_ret
      exact ⟨by first | rfl | (simp [errV_none, errV_some] <;> rfl) | (simp [*, errV_none, errV_some] <;> rfl), by repeat (first | (with_reducible first | exact HB.out | apply below_alloc | apply pw_below_drewN | apply below_drew1 | refine below_set ?_ GE133.out) | exact HB.out)⟩
    · rw [if_neg c5] at H
      have c5b0 : decide (2147483647 < (a0_4.size : Int)) = false := decide_eq_false c5
      have c5b1 : decide (2147483647 < a0_4.size) = false := decide_eq_false (by omega)
      clear c5
      obtain rfl := Option.some.inj H
      go_enter Tryd.func16, Tryd.ntmps16
      go_wp2_with (first | ((with_reducible refine gate_dst (N := 1) rfl ?_); refine box_event ?hg (N := 1) ?hd (cs := #[.bool a0_0, .bool a0_1, .bool a0_2, .slice A0_3 l0_3.length c0_3, .string a0_4, .int .u64 a0_5]) (t := 27) ?hr ?_; (case hd => rfl); (case hg => rfl); (case hr => first | (go_simp; done) | (go_simp; rfl)); intro gb133 hg w8 hbox hb; have n0_ := Aside0.mk (below_step (by repeat (first | (with_reducible first | exact HB.out | apply below_alloc | apply pw_below_drewN | apply below_drew1) | exact HB.out)) hb); have n1_ := Aside0.mk (hbox); have n2_ := Aside0.mk ((by rw [hg]; exact (below_size (by repeat (first | (with_reducible first | exact HB.out | apply below_alloc | apply pw_below_drewN | apply below_drew1) | exact HB.out))) : w.heap.size ≤ gb133)); have n3_ := Aside0.mk ((by rw [hg]; exact (below_size (by repeat (first | (with_reducible first | exact HB.out | apply below_alloc | apply pw_below_drewN | apply below_drew1) | exact HB.out))) : w.heap.size ≤ gb133)); clear HB; have HB := n0_; have BK133 := n1_; have GW133 := n2_; have GE133 := n3_; clear n0_ n1_ n2_ n3_; clear hb hbox hg; have hcz9_0 : w8.cell? ⟨gb133, 0, none⟩ = some (.bool a0_0) := (blk_cell BK133.out 0).trans rfl; have hcz9_1 : w8.cell? ⟨gb133, 1, none⟩ = some (.bool a0_1) := (blk_cell BK133.out 1).trans rfl; have hcz9_2 : w8.cell? ⟨gb133, 2, none⟩ = some (.bool a0_2) := (blk_cell BK133.out 2).trans rfl; have hcz9_3 : w8.cell? ⟨gb133, 3, none⟩ = some (.slice A0_3 l0_3.length c0_3) := (blk_cell BK133.out 3).trans rfl; have hcz9_4 : w8.cell? ⟨gb133, 4, none⟩ = some (.string a0_4) := (blk_cell BK133.out 4).trans rfl; have hcz9_5 : w8.cell? ⟨gb133, 5, none⟩ = some (.int .u64 a0_5) := (blk_cell BK133.out 5).trans rfl; have hfz9_0 := blk_frozen BK133.out 0; have hfz9_1 := blk_frozen BK133.out 1; have hfz9_2 := blk_frozen BK133.out 2; have hfz9_3 := blk_frozen BK133.out 3; have hfz9_4 := blk_frozen BK133.out 4; have hfz9_5 := blk_frozen BK133.out 5))
      go_ret
      exact ⟨by first | rfl | (simp [errV_none, errV_some] <;> rfl) | (simp [*, errV_none, errV_some] <;> rfl), by repeat (first | (with_reducible first | exact HB.out | apply below_alloc | apply pw_below_drewN | apply below_drew1 | refine below_set ?_ GE133.out) | exact HB.out)⟩

end Go.Proofs.YtnhnlodmkbiiiaaDoor.PPbWrite
