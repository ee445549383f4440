/- Printed by a program of this session (it drives the print of the kit, with contracts proved by hand beside): the Go functions of one law as Lean functions, and that the Go code comes to what they say. -/
import Derived.Test.YtbmeegkgcipmoaaDoorPFnCidSafeFirstx0
import Derived.Test.YtbmeegkgcipmoaaDoorPFnCidSafeFirstx1
import Derived.Test.YtbmeegkgcipmoaaDoorPFnCidSafeFirstx6
import Derived.Test.YtbmeegkgcipmoaaDoorPFnCidSafeFirstx7
namespace Go.Proofs.YtbmeegkgcipmoaaDoor.PFnCidSafeFirst
open Go.RowKit Go.Proofs.YtbmeegkgcipmoaaDoorL Go.Proofs.YtbmeegkgcipmoaaDoorW.PrintWords Go.Proofs.YtbmeegkgcipmoaaDoorW.PrintLast Go.Proofs.YtbmeegkgcipmoaaDoorW.PrintMore
attribute [local go_sem] max2_int min2_int max_two min_two max_three min_three max_four min_four   -- for this text's walks alone
set_option linter.unusedVariables false
set_option linter.unusedSimpArgs false

/-! ### gocid_Cid_Prefix: function 29 -/
def gocid_Cid_Prefix.f (k : Nat) (a0_0 : ByteArray) : Option (Int × Int × Int × Int) := (gocid_Cid_Version.f a0_0).bind fun t205 => (if t205 = 0 then (some (0, 112, 18, 32)) else (if 0 ≤ (a0_0.size : Int) then ((gocid_uvarint.f k a0_0).bind fun bt206 => (if 0 ≤ (wrap64 (bt206.2.1)) then (if (wrap64 (bt206.2.1)) ≤ (a0_0.size : Int) then ((gocid_uvarint.f k (a0_0.extract ((wrap64 (bt206.2.1)) : Int).toNat a0_0.size)).bind fun bt209 => (if 0 ≤ (wrap64 ((wrap64 (bt206.2.1)) + bt209.2.1)) then (if (wrap64 ((wrap64 (bt206.2.1)) + bt209.2.1)) ≤ (a0_0.size : Int) then ((gocid_uvarint.f k (a0_0.extract ((wrap64 ((wrap64 (bt206.2.1)) + bt209.2.1)) : Int).toNat a0_0.size)).bind fun bt212 => (if 0 ≤ (wrap64 ((wrap64 ((wrap64 (bt206.2.1)) + bt209.2.1)) + bt212.2.1)) then (if (wrap64 ((wrap64 ((wrap64 (bt206.2.1)) + bt209.2.1)) + bt212.2.1)) ≤ (a0_0.size : Int) then ((gocid_uvarint.f k (a0_0.extract ((wrap64 ((wrap64 ((wrap64 (bt206.2.1)) + bt209.2.1)) + bt212.2.1)) : Int).toNat a0_0.size)).bind fun bt215 => (some (bt206.1, bt209.1, bt212.1, wrap64 (bt215.1)))) else (none)) else (none))) else (none)) else (none))) else (none)) else (none))) else (none)))
theorem gocid_Cid_Prefix.mono : ∀ a0 k, LeO (gocid_Cid_Prefix.f k a0) (gocid_Cid_Prefix.f (k + 1) a0) := by
  intro a0 k
  unfold gocid_Cid_Prefix.f
  repeat' first
      | (with_reducible exact gocid_uvarint.mono _ _)
      | (with_reducible exact LeO.refl _)
      | (with_reducible exact LeO.none _)
      | (with_reducible refine LeO.ite ?_ ?_)
      | (with_reducible refine LeO.bind ?_ (fun _ => ?_))
      | exact gocid_uvarint.mono _ _
      | exact LeO.none _
      | refine LeO.ite ?_ ?_
      | refine LeO.bind ?_ (fun _ => ?_)
set_option maxHeartbeats 8000000 in
set_option maxRecDepth 100000 in
theorem gocid_Cid_Prefix.calls (k : Nat) (a0_0 : ByteArray) (r1 : Int) (r2 : Int) (r3 : Int) (r4 : Int) (w : World) (h : gocid_Cid_Prefix.f k a0_0 = some (r1, r2, r3, r4)) :
    Calls Tryd.prog 29 #[.agg #[.string a0_0]] w fun e w' => e = .returned (.agg #[.int .u64 r1, .int .u64 r2, .int .u64 r3, .int .i64 r4]) ∧ Below w.heap.size w w' := by
  have hu47 := Tryd.underlying47
  have hu73 := Tryd.underlying73
  have HB := Aside0.mk (Below.refl w.heap.size w)
  have H : ((gocid_Cid_Version.f a0_0).bind fun t205 => (if t205 = 0 then (some (0, 112, 18, 32)) else (if 0 ≤ (a0_0.size : Int) then ((gocid_uvarint.f k a0_0).bind fun bt206 => (if 0 ≤ (wrap64 (bt206.2.1)) then (if (wrap64 (bt206.2.1)) ≤ (a0_0.size : Int) then ((gocid_uvarint.f k (a0_0.extract ((wrap64 (bt206.2.1)) : Int).toNat a0_0.size)).bind fun bt209 => (if 0 ≤ (wrap64 ((wrap64 (bt206.2.1)) + bt209.2.1)) then (if (wrap64 ((wrap64 (bt206.2.1)) + bt209.2.1)) ≤ (a0_0.size : Int) then ((gocid_uvarint.f k (a0_0.extract ((wrap64 ((wrap64 (bt206.2.1)) + bt209.2.1)) : Int).toNat a0_0.size)).bind fun bt212 => (if 0 ≤ (wrap64 ((wrap64 ((wrap64 (bt206.2.1)) + bt209.2.1)) + bt212.2.1)) then (if (wrap64 ((wrap64 ((wrap64 (bt206.2.1)) + bt209.2.1)) + bt212.2.1)) ≤ (a0_0.size : Int) then ((gocid_uvarint.f k (a0_0.extract ((wrap64 ((wrap64 ((wrap64 (bt206.2.1)) + bt209.2.1)) + bt212.2.1)) : Int).toNat a0_0.size)).bind fun bt215 => (some (bt206.1, bt209.1, bt212.1, wrap64 (bt215.1)))) else (none)) else (none))) else (none)) else (none))) else (none)) else (none))) else (none)))) = some (r1, r2, r3, r4) := h
  clear h
  replace H := Option.bind_eq_some_iff.mp H
  obtain ⟨t205, A20, H⟩ := H
  replace H : (if t205 = 0 then (some (0, 112, 18, 32)) else (if 0 ≤ (a0_0.size : Int) then ((gocid_uvarint.f k a0_0).bind fun bt206 => (if 0 ≤ (wrap64 (bt206.2.1)) then (if (wrap64 (bt206.2.1)) ≤ (a0_0.size : Int) then ((gocid_uvarint.f k (a0_0.extract ((wrap64 (bt206.2.1)) : Int).toNat a0_0.size)).bind fun bt209 => (if 0 ≤ (wrap64 ((wrap64 (bt206.2.1)) + bt209.2.1)) then (if (wrap64 ((wrap64 (bt206.2.1)) + bt209.2.1)) ≤ (a0_0.size : Int) then ((gocid_uvarint.f k (a0_0.extract ((wrap64 ((wrap64 (bt206.2.1)) + bt209.2.1)) : Int).toNat a0_0.size)).bind fun bt212 => (if 0 ≤ (wrap64 ((wrap64 ((wrap64 (bt206.2.1)) + bt209.2.1)) + bt212.2.1)) then (if (wrap64 ((wrap64 ((wrap64 (bt206.2.1)) + bt209.2.1)) + bt212.2.1)) ≤ (a0_0.size : Int) then ((gocid_uvarint.f k (a0_0.extract ((wrap64 ((wrap64 ((wrap64 (bt206.2.1)) + bt209.2.1)) + bt212.2.1)) : Int).toNat a0_0.size)).bind fun bt215 => (some (bt206.1, bt209.1, bt212.1, wrap64 (bt215.1)))) else (none)) else (none))) else (none)) else (none))) else (none)) else (none))) else (none))) = some (r1, r2, r3, r4) := H
  have A2 := Aside0.mk A20
  clear A20
  by_cases c3 : t205 = 0
  · rw [if_pos c3] at H
    have c3b0 : (t205 == 0) = true := beq_iff_eq.mpr c3
    have c3b1 : (t205 != 0) = false := bne_eq_false_iff_eq.mpr c3
    clear c3
    simp only [Option.some.injEq, Prod.mk.injEq] at H
    obtain ⟨rfl, rfl, rfl, rfl⟩ := H
    go_enter Tryd.func29, Tryd.ntmps29
    go_wp2_with (first | ((with_reducible refine gate_dst (N := 1) rfl ?_); refine box_event ?hg (N := 1) ?hd (cs := #[.string a0_0]) (t := 47) ?hr ?_; (case hd => rfl); (case hg => rfl); (case hr => first | (go_simp; done) | (go_simp; rfl)); intro gb203 hg w4 hbox hb; have n0_ := Aside0.mk (below_step (by repeat (first | (with_reducible first | exact HB.out | apply below_alloc | apply pw_below_drewN | apply below_drew1) | exact HB.out)) hb); have n1_ := Aside0.mk (hbox); have n2_ := Aside0.mk ((by rw [hg]; exact (below_size (by repeat (first | (with_reducible first | exact HB.out | apply below_alloc | apply pw_below_drewN | apply below_drew1) | exact HB.out))) : w.heap.size ≤ gb203)); have n3_ := Aside0.mk ((by rw [hg]; exact (below_size (by repeat (first | (with_reducible first | exact HB.out | apply below_alloc | apply pw_below_drewN | apply below_drew1) | exact HB.out))) : w.heap.size ≤ gb203)); clear HB; have HB := n0_; have BK203 := n1_; have GW203 := n2_; have GE203 := n3_; clear n0_ n1_ n2_ n3_; clear hb hbox hg) | ((with_reducible refine gate_dst (N := 2) rfl ?_); refine box_event ?hg (N := 2) ?hd (cs := #[.int .u64 0, .int .u64 0, .int .u64 0, .int .i64 0]) (t := 73) ?hr ?_; (case hd => rfl); (case hg => rfl); (case hr => first | (go_simp; done) | (go_simp; rfl)); intro gb204 hg w5 hbox hb; have n0_ := Aside0.mk (blk_below (g := gb203) (o := .cells #[.string a0_0] 47 (0, 0)) (by (with_reducible repeat (first | refine blk_drewN ?_ _ | refine blk_drew ?_ | refine blk_alloc ?_ _)); exact BK203.out) hb); have n1_ := Aside0.mk (below_step (by repeat (first | (with_reducible first | exact HB.out | apply below_alloc | apply pw_below_drewN | apply below_drew1 | refine below_set ?_ GE203.out) | exact HB.out)) hb); have n2_ := Aside0.mk (hbox); have n3_ := Aside0.mk ((by rw [hg]; exact (below_size (by repeat (first | (with_reducible first | exact HB.out | apply below_alloc | apply pw_below_drewN | apply below_drew1 | refine below_set ?_ GE203.out) | exact HB.out))) : w.heap.size ≤ gb204)); have n4_ := Aside0.mk ((by rw [hg]; exact (below_size (by repeat (first | (with_reducible first | exact HB.out | apply below_alloc | apply pw_below_drewN | apply below_drew1 | refine below_set ?_ GE203.out) | exact HB.out))) : w.heap.size ≤ gb204)); have n5_ := Aside0.mk ((by rw [hg]; exact Nat.ne_of_lt (blk_lt (g := gb203) (o := .cells #[.string a0_0] 47 (0, 0)) (by (with_reducible repeat (first | refine blk_drewN ?_ _ | refine blk_drew ?_ | refine blk_alloc ?_ _)); exact BK203.out)) : gb203 ≠ gb204)); have n6_ := Aside0.mk ((by rw [hg]; exact Nat.ne_of_gt (blk_lt (g := gb203) (o := .cells #[.string a0_0] 47 (0, 0)) (by (with_reducible repeat (first | refine blk_drewN ?_ _ | refine blk_drew ?_ | refine blk_alloc ?_ _)); exact BK203.out)) : gb204 ≠ gb203)); clear BK203; clear HB; have BK203 := n0_; have HB := n1_; have BK204 := n2_; have GW204 := n3_; have GE204 := n4_; have NB203_204 := n5_; have NB204_203 := n6_; clear n0_ n1_ n2_ n3_ n4_ n5_ n6_; clear hb hbox hg; have hnb6 := NB203_204.out; have hnc6 := NB204_203.out; have hcz7_0 : w5.cell? ⟨gb203, 0, none⟩ = some (.string a0_0) := (blk_cell BK203.out 0).trans rfl; have hfz7_0 := blk_frozen BK203.out 0) | ((with_reducible refine gate_callee (f := 36) rfl ?_); refine goesL_ (some 15) rfl rfl Tryd.func36 (by kernel_rfl) rfl #[.agg #[.string a0_0]] rfl (by (try simp only [List.map_toArray, List.map_cons, List.map_nil]); first | done | rfl | (simp only [List.length_drop, List.length_take]; rfl)) ?_; (with_reducible refine (gocid_Cid_Version.calls a0_0 t205 _ A2.out).mono ?_); rintro e w8 ⟨rfl, hb⟩; refine ⟨_, rfl, ?_⟩; have n0_ := Aside0.mk (blk_below (g := gb203) (o := .cells #[.string a0_0] 47 (0, 0)) (by (with_reducible repeat (first | refine blk_drewN ?_ _ | refine blk_drew ?_ | refine blk_alloc ?_ _)); exact BK203.out) hb); have n1_ := Aside0.mk (blk_below (g := gb204) (o := .cells #[.int .u64 0, .int .u64 0, .int .u64 0, .int .i64 0] 73 (0, 0)) (by (with_reducible repeat (first | refine blk_drewN ?_ _ | refine blk_drew ?_ | refine blk_alloc ?_ _)); exact BK204.out) hb); have n2_ := Aside0.mk (below_step (by repeat (first | (with_reducible first | exact HB.out | apply below_alloc | apply pw_below_drewN | apply below_drew1 | refine below_set ?_ GE203.out | refine below_set ?_ GE204.out) | exact HB.out)) hb); clear BK203; clear BK204; clear HB; have BK203 := n0_; have BK204 := n1_; have HB := n2_; clear n0_ n1_ n2_; (try clear hb); (try clear hb2); (try clear hk); (try clear hi); have hcz9_0 : w8.cell? ⟨gb204, 0, none⟩ = some (.int .u64 0) := (blk_cell BK204.out 0).trans rfl; have hcz9_1 : w8.cell? ⟨gb204, 1, none⟩ = some (.int .u64 0) := (blk_cell BK204.out 1).trans rfl; have hcz9_2 : w8.cell? ⟨gb204, 2, none⟩ = some (.int .u64 0) := (blk_cell BK204.out 2).trans rfl; have hcz9_3 : w8.cell? ⟨gb204, 3, none⟩ = some (.int .i64 0) := (blk_cell BK204.out 3).trans rfl; have hfz9_0 := blk_frozen BK204.out 0; have hfz9_1 := blk_frozen BK204.out 1; have hfz9_2 := blk_frozen BK204.out 2; have hfz9_3 := blk_frozen BK204.out 3))
    refine bodyPost_ret (results_cell_row rfl _ _ gb204 73 #[.int .u64 0, .int .u64 112, .int .u64 18, .int .i64 32] (0, 0) _ rfl (by (with_reducible repeat (first | refine blk_drewN ?_ _ | refine blk_drew ?_ | refine blk_alloc ?_ _)); refine blk_put (cs := #[.int .u64 0, .int .u64 112, .int .u64 18, .int .i64 0]) ?_ 3 _ rfl; (with_reducible repeat (first | refine blk_drewN ?_ _ | refine blk_drew ?_ | refine blk_alloc ?_ _)); refine blk_put (cs := #[.int .u64 0, .int .u64 112, .int .u64 0, .int .i64 0]) ?_ 2 _ rfl; (with_reducible repeat (first | refine blk_drewN ?_ _ | refine blk_drew ?_ | refine blk_alloc ?_ _)); refine blk_put (cs := #[.int .u64 0, .int .u64 0, .int .u64 0, .int .i64 0]) ?_ 1 _ rfl; (with_reducible repeat (first | refine blk_drewN ?_ _ | refine blk_drew ?_ | refine blk_alloc ?_ _)); refine blk_put (cs := #[.int .u64 0, .int .u64 0, .int .u64 0, .int .i64 0]) ?_ 0 _ rfl; (with_reducible repeat (first | refine blk_drewN ?_ _ | refine blk_drew ?_ | refine blk_alloc ?_ _)); exact BK204.out) Tryd.underlying73 rfl (by kernel_rfl)) rfl ?_
    exact ⟨by first | rfl | (simp [errV_none, errV_some] <;> rfl) | (simp [*, errV_none, errV_some] <;> rfl), by repeat (first | (with_reducible first | exact HB.out | apply below_alloc | apply pw_below_drewN | apply below_drew1 | refine below_set ?_ GE203.out | refine below_set ?_ GE204.out) | exact HB.out)⟩
  · rw [if_neg c3] at H
    have c3b0 : (t205 == 0) = false := beq_eq_false_iff_ne.mpr c3
    have c3b1 : (t205 != 0) = true := bne_iff_ne.mpr c3
    by_cases c10 : 0 ≤ (a0_0.size : Int)
    · rw [if_pos c10] at H
      have c10b0 := eq_true c10
      have c10b1 : decide (0 ≤ (a0_0.size : Int)) = true := decide_eq_true c10
      clear c10
      replace H := Option.bind_eq_some_iff.mp H
      obtain ⟨⟨t206, t207, t208⟩, A110, H⟩ := H
      replace H : (if 0 ≤ (wrap64 (t207)) then (if (wrap64 (t207)) ≤ (a0_0.size : Int) then ((gocid_uvarint.f k (a0_0.extract ((wrap64 (t207)) : Int).toNat a0_0.size)).bind fun bt209 => (if 0 ≤ (wrap64 ((wrap64 (t207)) + bt209.2.1)) then (if (wrap64 ((wrap64 (t207)) + bt209.2.1)) ≤ (a0_0.size : Int) then ((gocid_uvarint.f k (a0_0.extract ((wrap64 ((wrap64 (t207)) + bt209.2.1)) : Int).toNat a0_0.size)).bind fun bt212 => (if 0 ≤ (wrap64 ((wrap64 ((wrap64 (t207)) + bt209.2.1)) + bt212.2.1)) then (if (wrap64 ((wrap64 ((wrap64 (t207)) + bt209.2.1)) + bt212.2.1)) ≤ (a0_0.size : Int) then ((gocid_uvarint.f k (a0_0.extract ((wrap64 ((wrap64 ((wrap64 (t207)) + bt209.2.1)) + bt212.2.1)) : Int).toNat a0_0.size)).bind fun bt215 => (some (t206, bt209.1, bt212.1, wrap64 (bt215.1)))) else (none)) else (none))) else (none)) else (none))) else (none)) else (none)) = some (r1, r2, r3, r4) := H
      have A11 := Aside0.mk A110
      clear A110
      obtain ⟨ji12, hji12⟩ : ∃ j_ : Int, (wrap64 (t207)) = j_ := ⟨_, rfl⟩
      replace H : (if 0 ≤ (ji12) then (if (ji12) ≤ (a0_0.size : Int) then ((gocid_uvarint.f k (a0_0.extract ((ji12) : Int).toNat a0_0.size)).bind fun bt209 => (if 0 ≤ (wrap64 ((ji12) + bt209.2.1)) then (if (wrap64 ((ji12) + bt209.2.1)) ≤ (a0_0.size : Int) then ((gocid_uvarint.f k (a0_0.extract ((wrap64 ((ji12) + bt209.2.1)) : Int).toNat a0_0.size)).bind fun bt212 => (if 0 ≤ (wrap64 ((wrap64 ((ji12) + bt209.2.1)) + bt212.2.1)) then (if (wrap64 ((wrap64 ((ji12) + bt209.2.1)) + bt212.2.1)) ≤ (a0_0.size : Int) then ((gocid_uvarint.f k (a0_0.extract ((wrap64 ((wrap64 ((ji12) + bt209.2.1)) + bt212.2.1)) : Int).toNat a0_0.size)).bind fun bt215 => (some (t206, bt209.1, bt212.1, wrap64 (bt215.1)))) else (none)) else (none))) else (none)) else (none))) else (none)) else (none)) = some (r1, r2, r3, r4) := by first | (rw [hji12] at H; exact H) | (simp only [hji12] at H ⊢; exact H)
      (try rw [hji12] at A2)
      (try rw [hji12] at A11)
      have hji12w : (IntKind.i64.wrap (t207)) = ji12 := (i64_w _).trans hji12
      by_cases c13 : 0 ≤ (ji12)
      · rw [if_pos c13] at H
        have c13b0 := eq_true c13
        have c13b1 : decide (0 ≤ (ji12)) = true := decide_eq_true c13
        clear c13
        by_cases c14 : (ji12) ≤ (a0_0.size : Int)
        · rw [if_pos c14] at H
          have c14b0 := eq_true c14
          have c14b1 : decide ((ji12) ≤ (a0_0.size : Int)) = true := decide_eq_true c14
          clear c14
          replace H := Option.bind_eq_some_iff.mp H
          obtain ⟨⟨t209, t210, t211⟩, A150, H⟩ := H
          replace H : (if 0 ≤ (wrap64 ((ji12) + t210)) then (if (wrap64 ((ji12) + t210)) ≤ (a0_0.size : Int) then ((gocid_uvarint.f k (a0_0.extract ((wrap64 ((ji12) + t210)) : Int).toNat a0_0.size)).bind fun bt212 => (if 0 ≤ (wrap64 ((wrap64 ((ji12) + t210)) + bt212.2.1)) then (if (wrap64 ((wrap64 ((ji12) + t210)) + bt212.2.1)) ≤ (a0_0.size : Int) then ((gocid_uvarint.f k (a0_0.extract ((wrap64 ((wrap64 ((ji12) + t210)) + bt212.2.1)) : Int).toNat a0_0.size)).bind fun bt215 => (some (t206, t209, bt212.1, wrap64 (bt215.1)))) else (none)) else (none))) else (none)) else (none)) = some (r1, r2, r3, r4) := H
          have A15 := Aside0.mk A150
          clear A150
          obtain ⟨ji16, hji16⟩ : ∃ j_ : Int, (wrap64 ((ji12) + t210)) = j_ := ⟨_, rfl⟩
          replace H : (if 0 ≤ (ji16) then (if (ji16) ≤ (a0_0.size : Int) then ((gocid_uvarint.f k (a0_0.extract ((ji16) : Int).toNat a0_0.size)).bind fun bt212 => (if 0 ≤ (wrap64 ((ji16) + bt212.2.1)) then (if (wrap64 ((ji16) + bt212.2.1)) ≤ (a0_0.size : Int) then ((gocid_uvarint.f k (a0_0.extract ((wrap64 ((ji16) + bt212.2.1)) : Int).toNat a0_0.size)).bind fun bt215 => (some (t206, t209, bt212.1, wrap64 (bt215.1)))) else (none)) else (none))) else (none)) else (none)) = some (r1, r2, r3, r4) := by first | (rw [hji16] at H; exact H) | (simp only [hji16] at H ⊢; exact H)
          (try rw [hji16] at A2)
          (try rw [hji16] at A11)
          (try rw [hji16] at A15)
          have hji16w : (IntKind.i64.wrap ((ji12) + t210)) = ji16 := (i64_w _).trans hji16
          by_cases c17 : 0 ≤ (ji16)
          · rw [if_pos c17] at H
            have c17b0 := eq_true c17
            have c17b1 : decide (0 ≤ (ji16)) = true := decide_eq_true c17
            clear c17
            by_cases c18 : (ji16) ≤ (a0_0.size : Int)
            · rw [if_pos c18] at H
              have c18b0 := eq_true c18
              have c18b1 : decide ((ji16) ≤ (a0_0.size : Int)) = true := decide_eq_true c18
              clear c18
              replace H := Option.bind_eq_some_iff.mp H
              obtain ⟨⟨t212, t213, t214⟩, A190, H⟩ := H
              replace H : (if 0 ≤ (wrap64 ((ji16) + t213)) then (if (wrap64 ((ji16) + t213)) ≤ (a0_0.size : Int) then ((gocid_uvarint.f k (a0_0.extract ((wrap64 ((ji16) + t213)) : Int).toNat a0_0.size)).bind fun bt215 => (some (t206, t209, t212, wrap64 (bt215.1)))) else (none)) else (none)) = some (r1, r2, r3, r4) := H
              have A19 := Aside0.mk A190
              clear A190
              obtain ⟨ji20, hji20⟩ : ∃ j_ : Int, (wrap64 ((ji16) + t213)) = j_ := ⟨_, rfl⟩
              replace H : (if 0 ≤ (ji20) then (if (ji20) ≤ (a0_0.size : Int) then ((gocid_uvarint.f k (a0_0.extract ((ji20) : Int).toNat a0_0.size)).bind fun bt215 => (some (t206, t209, t212, wrap64 (bt215.1)))) else (none)) else (none)) = some (r1, r2, r3, r4) := by first | (rw [hji20] at H; exact H) | (simp only [hji20] at H ⊢; exact H)
              (try rw [hji20] at A2)
              (try rw [hji20] at A11)
              (try rw [hji20] at A15)
              (try rw [hji20] at A19)
              have hji20w : (IntKind.i64.wrap ((ji16) + t213)) = ji20 := (i64_w _).trans hji20
              by_cases c21 : 0 ≤ (ji20)
              · rw [if_pos c21] at H
                have c21b0 := eq_true c21
                have c21b1 : decide (0 ≤ (ji20)) = true := decide_eq_true c21
                clear c21
                by_cases c22 : (ji20) ≤ (a0_0.size : Int)
                · rw [if_pos c22] at H
                  have c22b0 := eq_true c22
                  have c22b1 : decide ((ji20) ≤ (a0_0.size : Int)) = true := decide_eq_true c22
                  clear c22
                  replace H := Option.bind_eq_some_iff.mp H
                  obtain ⟨⟨t215, t216, t217⟩, A230, H⟩ := H
                  replace H : (some (t206, t209, t212, wrap64 (t215))) = some (r1, r2, r3, r4) := H
                  have A23 := Aside0.mk A230
                  clear A230
                  simp only [Option.some.injEq, Prod.mk.injEq] at H
                  obtain ⟨rfl, rfl, rfl, rfl⟩ := H
                  go_enter Tryd.func29, Tryd.ntmps29
                  go_wp2_with (first | ((with_reducible refine gate_dst (N := 1) rfl ?_); refine box_event ?hg (N := 1) ?hd (cs := #[.string a0_0]) (t := 47) ?hr ?_; (case hd => rfl); (case hg => rfl); (case hr => first | (go_simp; done) | (go_simp; rfl)); intro gb203 hg w24 hbox hb; have n0_ := Aside0.mk (below_step (by repeat (first | (with_reducible first | exact HB.out | apply below_alloc | apply pw_below_drewN | apply below_drew1) | exact HB.out)) hb); have n1_ := Aside0.mk (hbox); have n2_ := Aside0.mk ((by rw [hg]; exact (below_size (by repeat (first | (with_reducible first | exact HB.out | apply below_alloc | apply pw_below_drewN | apply below_drew1) | exact HB.out))) : w.heap.size ≤ gb203)); have n3_ := Aside0.mk ((by rw [hg]; exact (below_size (by repeat (first | (with_reducible first | exact HB.out | apply below_alloc | apply pw_below_drewN | apply below_drew1) | exact HB.out))) : w.heap.size ≤ gb203)); clear HB; have HB := n0_; have BK203 := n1_; have GW203 := n2_; have GE203 := n3_; clear n0_ n1_ n2_ n3_; clear hb hbox hg) | ((with_reducible refine gate_dst (N := 2) rfl ?_); refine box_event ?hg (N := 2) ?hd (cs := #[.int .u64 0, .int .u64 0, .int .u64 0, .int .i64 0]) (t := 73) ?hr ?_; (case hd => rfl); (case hg => rfl); (case hr => first | (go_simp; done) | (go_simp; rfl)); intro gb204 hg w25 hbox hb; have n0_ := Aside0.mk (blk_below (g := gb203) (o := .cells #[.string a0_0] 47 (0, 0)) (by (with_reducible repeat (first | refine blk_drewN ?_ _ | refine blk_drew ?_ | refine blk_alloc ?_ _)); exact BK203.out) hb); have n1_ := Aside0.mk (below_step (by repeat (first | (with_reducible first | exact HB.out | apply below_alloc | apply pw_below_drewN | apply below_drew1 | refine below_set ?_ GE203.out) | exact HB.out)) hb); have n2_ := Aside0.mk (hbox); have n3_ := Aside0.mk ((by rw [hg]; exact (below_size (by repeat (first | (with_reducible first | exact HB.out | apply below_alloc | apply pw_below_drewN | apply below_drew1 | refine below_set ?_ GE203.out) | exact HB.out))) : w.heap.size ≤ gb204)); have n4_ := Aside0.mk ((by rw [hg]; exact (below_size (by repeat (first | (with_reducible first | exact HB.out | apply below_alloc | apply pw_below_drewN | apply below_drew1 | refine below_set ?_ GE203.out) | exact HB.out))) : w.heap.size ≤ gb204)); have n5_ := Aside0.mk ((by rw [hg]; exact Nat.ne_of_lt (blk_lt (g := gb203) (o := .cells #[.string a0_0] 47 (0, 0)) (by (with_reducible repeat (first | refine blk_drewN ?_ _ | refine blk_drew ?_ | refine blk_alloc ?_ _)); exact BK203.out)) : gb203 ≠ gb204)); have n6_ := Aside0.mk ((by rw [hg]; exact Nat.ne_of_gt (blk_lt (g := gb203) (o := .cells #[.string a0_0] 47 (0, 0)) (by (with_reducible repeat (first | refine blk_drewN ?_ _ | refine blk_drew ?_ | refine blk_alloc ?_ _)); exact BK203.out)) : gb204 ≠ gb203)); clear BK203; clear HB; have BK203 := n0_; have HB := n1_; have BK204 := n2_; have GW204 := n3_; have GE204 := n4_; have NB203_204 := n5_; have NB204_203 := n6_; clear n0_ n1_ n2_ n3_ n4_ n5_ n6_; clear hb hbox hg; have hnb26 := NB203_204.out; have hnc26 := NB204_203.out; have hcz27_0 : w25.cell? ⟨gb203, 0, none⟩ = some (.string a0_0) := (blk_cell BK203.out 0).trans rfl; have hfz27_0 := blk_frozen BK203.out 0) | ((with_reducible refine gate_callee (f := 36) rfl ?_); refine goesL_ (some 15) rfl rfl Tryd.func36 (by kernel_rfl) rfl #[.agg #[.string a0_0]] rfl (by (try simp only [List.map_toArray, List.map_cons, List.map_nil]); first | done | rfl | (simp only [List.length_drop, List.length_take]; rfl)) ?_; (with_reducible refine (gocid_Cid_Version.calls a0_0 t205 _ A2.out).mono ?_); rintro e w28 ⟨rfl, hb⟩; refine ⟨_, rfl, ?_⟩; have n0_ := Aside0.mk (blk_below (g := gb203) (o := .cells #[.string a0_0] 47 (0, 0)) (by (with_reducible repeat (first | refine blk_drewN ?_ _ | refine blk_drew ?_ | refine blk_alloc ?_ _)); exact BK203.out) hb); have n1_ := Aside0.mk (blk_below (g := gb204) (o := .cells #[.int .u64 0, .int .u64 0, .int .u64 0, .int .i64 0] 73 (0, 0)) (by (with_reducible repeat (first | refine blk_drewN ?_ _ | refine blk_drew ?_ | refine blk_alloc ?_ _)); exact BK204.out) hb); have n2_ := Aside0.mk (below_step (by repeat (first | (with_reducible first | exact HB.out | apply below_alloc | apply pw_below_drewN | apply below_drew1 | refine below_set ?_ GE203.out | refine below_set ?_ GE204.out) | exact HB.out)) hb); clear BK203; clear BK204; clear HB; have BK203 := n0_; have BK204 := n1_; have HB := n2_; clear n0_ n1_ n2_; (try clear hb); (try clear hb2); (try clear hk); (try clear hi); have hcz29_0 : w28.cell? ⟨gb203, 0, none⟩ = some (.string a0_0) := (blk_cell BK203.out 0).trans rfl; have hfz29_0 := blk_frozen BK203.out 0) | ((with_reducible refine gate_callee (f := 37) rfl ?_); refine goesL_ (some 23) rfl rfl Tryd.func37 (by kernel_rfl) rfl #[.string a0_0] rfl (by (try simp only [List.map_toArray, List.map_cons, List.map_nil]); first | done | rfl | (simp only [List.length_drop, List.length_take]; rfl)) ?_; (with_reducible refine (gocid_uvarint.calls k a0_0 t206 t207 t208 _ A11.out).mono ?_); rintro e w' ⟨eT_t208, eX_t208, rfl, ⟨nd, rfl⟩⟩; refine ⟨_, rfl, ?_⟩; (try simp only [errV_none, errV_some]); (try (rw [drewN_self w28]; generalize hq_ : World.drewN w28 _ = w28; have n0_ : Aside0 (w28.heap[gb203]? = some (.cells #[.string a0_0] 47 (0, 0))) := ⟨by rw [← hq_]; exact (by (with_reducible repeat (first | refine blk_drewN ?_ _ | refine blk_drew ?_ | refine blk_alloc ?_ _)); exact BK203.out)⟩; have n1_ : Aside0 (w28.heap[gb204]? = some (.cells #[.int .u64 0, .int .u64 0, .int .u64 0, .int .i64 0] 73 (0, 0))) := ⟨by rw [← hq_]; exact (by (with_reducible repeat (first | refine blk_drewN ?_ _ | refine blk_drew ?_ | refine blk_alloc ?_ _)); exact BK204.out)⟩; have n2_ : Aside0 (Below w.heap.size w w28) := ⟨by rw [← hq_]; exact (by repeat (first | (with_reducible first | exact HB.out | apply below_alloc | apply pw_below_drewN | apply below_drew1 | refine below_set ?_ GE203.out | refine below_set ?_ GE204.out) | exact HB.out))⟩; clear BK203 BK204 HB hq_; have BK203 := n0_; have BK204 := n1_; have HB := n2_; clear n0_ n1_ n2_)); have hczA_ : w28.cell? ⟨gb203, 0, none⟩ = some (.string a0_0) := (blk_cell BK203.out 0).trans rfl; have hczB0_ : w28.cell? ⟨gb204, 0, none⟩ = some (.int .u64 0) := (blk_cell BK204.out 0).trans rfl; have hfzB0_ := blk_frozen BK204.out 0; have hczB1_ : w28.cell? ⟨gb204, 1, none⟩ = some (.int .u64 0) := (blk_cell BK204.out 1).trans rfl; have hfzB1_ := blk_frozen BK204.out 1; have hczB2_ : w28.cell? ⟨gb204, 2, none⟩ = some (.int .u64 0) := (blk_cell BK204.out 2).trans rfl; have hfzB2_ := blk_frozen BK204.out 2; have hczB3_ : w28.cell? ⟨gb204, 3, none⟩ = some (.int .i64 0) := (blk_cell BK204.out 3).trans rfl; have hfzB3_ := blk_frozen BK204.out 3) | ((with_reducible refine gate_callee (f := 37) rfl ?_); refine goesL_ (some 35) rfl rfl Tryd.func37 (by kernel_rfl) rfl #[.string (a0_0.extract ((ji12) : Int).toNat a0_0.size)] rfl (by (try simp only [List.map_toArray, List.map_cons, List.map_nil]); first | done | (simp only [hji12]; rfl) | rfl | (simp only [List.length_drop, List.length_take]; rfl)) ?_; (with_reducible refine (gocid_uvarint.calls k (a0_0.extract ((ji12) : Int).toNat a0_0.size) t209 t210 t211 _ A15.out).mono ?_); rintro e w' ⟨eT_t211, eX_t211, rfl, ⟨nd, rfl⟩⟩; refine ⟨_, rfl, ?_⟩; (try simp only [errV_none, errV_some]); (try (rw [drewN_self w28]; generalize hq_ : World.drewN w28 _ = w28; have n0_ : Aside0 (w28.heap[gb203]? = some (.cells #[.string a0_0] 47 (0, 0))) := ⟨by rw [← hq_]; exact (by (with_reducible repeat (first | refine blk_drewN ?_ _ | refine blk_drew ?_ | refine blk_alloc ?_ _)); exact BK203.out)⟩; have n1_ : Aside0 (w28.heap[gb204]? = some (.cells #[.int .u64 0, .int .u64 0, .int .u64 0, .int .i64 0] 73 (0, 0))) := ⟨by rw [← hq_]; exact (by (with_reducible repeat (first | refine blk_drewN ?_ _ | refine blk_drew ?_ | refine blk_alloc ?_ _)); exact BK204.out)⟩; have n2_ : Aside0 (Below w.heap.size w w28) := ⟨by rw [← hq_]; exact (by repeat (first | (with_reducible first | exact HB.out | apply below_alloc | apply pw_below_drewN | apply below_drew1 | refine below_set ?_ GE203.out | refine below_set ?_ GE204.out) | exact HB.out))⟩; clear BK203 BK204 HB hq_; have BK203 := n0_; have BK204 := n1_; have HB := n2_; clear n0_ n1_ n2_)); have hczA_ : w28.cell? ⟨gb203, 0, none⟩ = some (.string a0_0) := (blk_cell BK203.out 0).trans rfl; have hczB0_ : w28.cell? ⟨gb204, 0, none⟩ = some (.int .u64 0) := (blk_cell BK204.out 0).trans rfl; have hfzB0_ := blk_frozen BK204.out 0; have hczB1_ : w28.cell? ⟨gb204, 1, none⟩ = some (.int .u64 0) := (blk_cell BK204.out 1).trans rfl; have hfzB1_ := blk_frozen BK204.out 1; have hczB2_ : w28.cell? ⟨gb204, 2, none⟩ = some (.int .u64 0) := (blk_cell BK204.out 2).trans rfl; have hfzB2_ := blk_frozen BK204.out 2; have hczB3_ : w28.cell? ⟨gb204, 3, none⟩ = some (.int .i64 0) := (blk_cell BK204.out 3).trans rfl; have hfzB3_ := blk_frozen BK204.out 3) | ((with_reducible refine gate_callee (f := 37) rfl ?_); refine goesL_ (some 47) rfl rfl Tryd.func37 (by kernel_rfl) rfl #[.string (a0_0.extract ((ji16) : Int).toNat a0_0.size)] rfl (by (try simp only [List.map_toArray, List.map_cons, List.map_nil]); first | done | (simp only [hji16]; rfl) | rfl | (simp only [List.length_drop, List.length_take]; rfl)) ?_; (with_reducible refine (gocid_uvarint.calls k (a0_0.extract ((ji16) : Int).toNat a0_0.size) t212 t213 t214 _ A19.out).mono ?_); rintro e w' ⟨eT_t214, eX_t214, rfl, ⟨nd, rfl⟩⟩; refine ⟨_, rfl, ?_⟩; (try simp only [errV_none, errV_some]); (try (rw [drewN_self w28]; generalize hq_ : World.drewN w28 _ = w28; have n0_ : Aside0 (w28.heap[gb203]? = some (.cells #[.string a0_0] 47 (0, 0))) := ⟨by rw [← hq_]; exact (by (with_reducible repeat (first | refine blk_drewN ?_ _ | refine blk_drew ?_ | refine blk_alloc ?_ _)); exact BK203.out)⟩; have n1_ : Aside0 (w28.heap[gb204]? = some (.cells #[.int .u64 0, .int .u64 0, .int .u64 0, .int .i64 0] 73 (0, 0))) := ⟨by rw [← hq_]; exact (by (with_reducible repeat (first | refine blk_drewN ?_ _ | refine blk_drew ?_ | refine blk_alloc ?_ _)); exact BK204.out)⟩; have n2_ : Aside0 (Below w.heap.size w w28) := ⟨by rw [← hq_]; exact (by repeat (first | (with_reducible first | exact HB.out | apply below_alloc | apply pw_below_drewN | apply below_drew1 | refine below_set ?_ GE203.out | refine below_set ?_ GE204.out) | exact HB.out))⟩; clear BK203 BK204 HB hq_; have BK203 := n0_; have BK204 := n1_; have HB := n2_; clear n0_ n1_ n2_)); have hczA_ : w28.cell? ⟨gb203, 0, none⟩ = some (.string a0_0) := (blk_cell BK203.out 0).trans rfl; have hczB0_ : w28.cell? ⟨gb204, 0, none⟩ = some (.int .u64 0) := (blk_cell BK204.out 0).trans rfl; have hfzB0_ := blk_frozen BK204.out 0; have hczB1_ : w28.cell? ⟨gb204, 1, none⟩ = some (.int .u64 0) := (blk_cell BK204.out 1).trans rfl; have hfzB1_ := blk_frozen BK204.out 1; have hczB2_ : w28.cell? ⟨gb204, 2, none⟩ = some (.int .u64 0) := (blk_cell BK204.out 2).trans rfl; have hfzB2_ := blk_frozen BK204.out 2; have hczB3_ : w28.cell? ⟨gb204, 3, none⟩ = some (.int .i64 0) := (blk_cell BK204.out 3).trans rfl; have hfzB3_ := blk_frozen BK204.out 3) | ((with_reducible refine gate_callee (f := 37) rfl ?_); refine goesL_ (some 59) rfl rfl Tryd.func37 (by kernel_rfl) rfl #[.string (a0_0.extract ((ji20) : Int).toNat a0_0.size)] rfl (by (try simp only [List.map_toArray, List.map_cons, List.map_nil]); first | done | (simp only [hji20]; rfl) | rfl | (simp only [List.length_drop, List.length_take]; rfl)) ?_; (with_reducible refine (gocid_uvarint.calls k (a0_0.extract ((ji20) : Int).toNat a0_0.size) t215 t216 t217 _ A23.out).mono ?_); rintro e w' ⟨eT_t217, eX_t217, rfl, ⟨nd, rfl⟩⟩; refine ⟨_, rfl, ?_⟩; (try simp only [errV_none, errV_some]); (try (rw [drewN_self w28]; generalize hq_ : World.drewN w28 _ = w28; have n0_ : Aside0 (w28.heap[gb203]? = some (.cells #[.string a0_0] 47 (0, 0))) := ⟨by rw [← hq_]; exact (by (with_reducible repeat (first | refine blk_drewN ?_ _ | refine blk_drew ?_ | refine blk_alloc ?_ _)); exact BK203.out)⟩; have n1_ : Aside0 (w28.heap[gb204]? = some (.cells #[.int .u64 0, .int .u64 0, .int .u64 0, .int .i64 0] 73 (0, 0))) := ⟨by rw [← hq_]; exact (by (with_reducible repeat (first | refine blk_drewN ?_ _ | refine blk_drew ?_ | refine blk_alloc ?_ _)); exact BK204.out)⟩; have n2_ : Aside0 (Below w.heap.size w w28) := ⟨by rw [← hq_]; exact (by repeat (first | (with_reducible first | exact HB.out | apply below_alloc | apply pw_below_drewN | apply below_drew1 | refine below_set ?_ GE203.out | refine below_set ?_ GE204.out) | exact HB.out))⟩; clear BK203 BK204 HB hq_; have BK203 := n0_; have BK204 := n1_; have HB := n2_; clear n0_ n1_ n2_)); have hczA_ : w28.cell? ⟨gb203, 0, none⟩ = some (.string a0_0) := (blk_cell BK203.out 0).trans rfl; have hczB0_ : w28.cell? ⟨gb204, 0, none⟩ = some (.int .u64 0) := (blk_cell BK204.out 0).trans rfl; have hfzB0_ := blk_frozen BK204.out 0; have hczB1_ : w28.cell? ⟨gb204, 1, none⟩ = some (.int .u64 0) := (blk_cell BK204.out 1).trans rfl; have hfzB1_ := blk_frozen BK204.out 1; have hczB2_ : w28.cell? ⟨gb204, 2, none⟩ = some (.int .u64 0) := (blk_cell BK204.out 2).trans rfl; have hfzB2_ := blk_frozen BK204.out 2; have hczB3_ : w28.cell? ⟨gb204, 3, none⟩ = some (.int .i64 0) := (blk_cell BK204.out 3).trans rfl; have hfzB3_ := blk_frozen BK204.out 3; have hcz30_0 : w28.cell? ⟨gb204, 0, none⟩ = some (.int .u64 0) := (blk_cell BK204.out 0).trans rfl; have hcz30_1 : w28.cell? ⟨gb204, 1, none⟩ = some (.int .u64 0) := (blk_cell BK204.out 1).trans rfl; have hcz30_2 : w28.cell? ⟨gb204, 2, none⟩ = some (.int .u64 0) := (blk_cell BK204.out 2).trans rfl; have hcz30_3 : w28.cell? ⟨gb204, 3, none⟩ = some (.int .i64 0) := (blk_cell BK204.out 3).trans rfl; have hfz30_0 := blk_frozen BK204.out 0; have hfz30_1 := blk_frozen BK204.out 1; have hfz30_2 := blk_frozen BK204.out 2; have hfz30_3 := blk_frozen BK204.out 3))
                  refine bodyPost_ret (results_cell_row rfl _ _ gb204 73 #[.int .u64 t206, .int .u64 t209, .int .u64 t212, .int .i64 (wrap64 (t215))] (0, 0) _ rfl (by (with_reducible repeat (first | refine blk_drewN ?_ _ | refine blk_drew ?_ | refine blk_alloc ?_ _)); refine blk_put (cs := #[.int .u64 t206, .int .u64 t209, .int .u64 t212, .int .i64 0]) ?_ 3 _ rfl; (with_reducible repeat (first | refine blk_drewN ?_ _ | refine blk_drew ?_ | refine blk_alloc ?_ _)); refine blk_put (cs := #[.int .u64 t206, .int .u64 t209, .int .u64 0, .int .i64 0]) ?_ 2 _ rfl; (with_reducible repeat (first | refine blk_drewN ?_ _ | refine blk_drew ?_ | refine blk_alloc ?_ _)); refine blk_put (cs := #[.int .u64 t206, .int .u64 0, .int .u64 0, .int .i64 0]) ?_ 1 _ rfl; (with_reducible repeat (first | refine blk_drewN ?_ _ | refine blk_drew ?_ | refine blk_alloc ?_ _)); refine blk_put (cs := #[.int .u64 0, .int .u64 0, .int .u64 0, .int .i64 0]) ?_ 0 _ rfl; (with_reducible repeat (first | refine blk_drewN ?_ _ | refine blk_drew ?_ | refine blk_alloc ?_ _)); exact BK204.out) Tryd.underlying73 rfl (by kernel_rfl)) rfl ?_
                  exact ⟨by first | rfl | (simp [errV_none, errV_some] <;> rfl) | (simp only [← hji12, ← hji16, ← hji20]; first | rfl | (simp [errV_none, errV_some] <;> rfl)) | (simp [*, errV_none, errV_some] <;> rfl), by repeat (first | (with_reducible first | exact HB.out | apply below_alloc | apply pw_below_drewN | apply below_drew1 | refine below_set ?_ GE203.out | refine below_set ?_ GE204.out) | exact HB.out)⟩
                · rw [if_neg c22] at H
                  exact absurd H (by simp)
              · rw [if_neg c21] at H
                exact absurd H (by simp)
            · rw [if_neg c18] at H
              exact absurd H (by simp)
          · rw [if_neg c17] at H
            exact absurd H (by simp)
        · rw [if_neg c14] at H
          exact absurd H (by simp)
      · rw [if_neg c13] at H
        exact absurd H (by simp)
    · rw [if_neg c10] at H
      exact absurd H (by simp)

-- NOT PRINTED: function 20 (verifcid_ValidateCid)

/-! ### impl_CidSafe: function 10 -/
def impl_CidSafe.f (k : Nat) (l0 : List Int) : Option (Int) := (bytes_Clone.f l0).bind fun t218 => ((gocid_Cast.f k t218).bind fun bt221 => (if bt221.2.isNone = true then (none) else (some (-1))))
theorem impl_CidSafe.mono : ∀ a0 k, LeO (impl_CidSafe.f k a0) (impl_CidSafe.f (k + 1) a0) := by
  intro a0 k
  unfold impl_CidSafe.f
  repeat' first
      | (with_reducible exact gocid_Cast.mono _ _)
      | (with_reducible exact LeO.refl _)
      | (with_reducible exact LeO.none _)
      | (with_reducible refine LeO.ite ?_ ?_)
      | (with_reducible refine LeO.bind ?_ (fun _ => ?_))
      | exact gocid_Cast.mono _ _
      | exact LeO.none _
      | refine LeO.ite ?_ ?_
      | refine LeO.bind ?_ (fun _ => ?_)
set_option maxHeartbeats 8000000 in
set_option maxRecDepth 100000 in
theorem impl_CidSafe.calls (k : Nat) (A0 : Option Addr) (c0 : Nat) (l0 : List Int) (r : Int) (w : World) (hr0 : Kd.C (Kd.int .u8) w A0 l0.length l0) (hc0 : l0.length ≤ c0) (h : impl_CidSafe.f k l0 = some r) :
    Calls Tryd.prog 10 #[.slice A0 l0.length c0] w fun e w' => e = .returned (.int .i64 r) ∧ Below w.heap.size w w' := by
  have hu47 := Tryd.underlying47
  have hu38 := Tryd.underlying38
  have HR0 := Aside0.mk hr0
  have HC0 := Aside0.mk hc0
  clear hr0 hc0
  have HB := Aside0.mk (Below.refl w.heap.size w)
  have H : ((bytes_Clone.f l0).bind fun t218 => ((gocid_Cast.f k t218).bind fun bt221 => (if bt221.2.isNone = true then (none) else (some (-1))))) = some r := h
  clear h
  replace H := Option.bind_eq_some_iff.mp H
  obtain ⟨t218, A20, H⟩ := H
  replace H : ((gocid_Cast.f k t218).bind fun bt221 => (if bt221.2.isNone = true then (none) else (some (-1)))) = some r := H
  have A2 := Aside0.mk A20
  clear A20
  replace H := Option.bind_eq_some_iff.mp H
  obtain ⟨⟨t221, t222⟩, A30, H⟩ := H
  replace H : (if t222.isNone = true then (none) else (some (-1))) = some r := H
  have A3 := Aside0.mk A30
  clear A30
  rcases t222 with _ | q224
  · have H1 : (none) = some r := by rw [if_pos (show (none : Option Int).isNone = true by rfl)] at H; exact H
    clear H
    have H := H1
    clear H1
    try simp only [errV_none, errV_some]
    exact absurd H (by simp)
  · have H1 : (some (-1)) = some r := by rw [if_neg (show ¬ (some q224).isNone = true by simp)] at H; exact H
    clear H
    have H := H1
    clear H1
    try simp only [errV_none, errV_some]
    obtain rfl := Option.some.inj H
    go_enter Tryd.func10, Tryd.ntmps10
    go_wp2_with (first | ((with_reducible refine gate_callee (f := 16) rfl ?_); refine goesL_ (some 7) rfl rfl Tryd.func16 (by kernel_rfl) rfl #[.slice A0 l0.length c0] rfl (by (try simp only [List.map_toArray, List.map_cons, List.map_nil]); first | done | rfl | (simp only [List.length_drop, List.length_take]; rfl)) ?_; (with_reducible refine (bytes_Clone.calls _ _ l0 t218 _ ?side1 ?side2 A2.out).mono ?_); (case side1 => repeat (first | exact HR0.out | (with_reducible refine Kd.C_alloc ?_ _) | (with_reducible refine Kd.C_drewN ?_ _) | (with_reducible refine Kd.C_drew ?_))); (case side2 => exact HC0.out); rintro e w4 ⟨v219, rfl, ho0, hb⟩; refine ⟨_, rfl, ?_⟩; have n0_ := Aside0.mk (Kd.R_lower ho0 (below_size (by repeat (first | (with_reducible first | exact HB.out | apply below_alloc | apply pw_below_drewN | apply below_drew1) | exact HB.out)))); have n1_ := Aside0.mk (below_step (by repeat (first | (with_reducible first | exact HB.out | apply below_alloc | apply pw_below_drewN | apply below_drew1) | exact HB.out)) hb); clear HB; have HO220 := n0_; have HB := n1_; clear n0_ n1_; (try clear hb); (try clear hb2); (try clear hk); (try clear hi); (try clear ho0); obtain ⟨Ao5, co5, eo5⟩ := Kd.R_slice HO220.out; subst eo5) | ((with_reducible refine gate_callee (f := 19) rfl ?_); refine goesL_ (some 8) rfl rfl Tryd.func19 (by kernel_rfl) rfl #[.slice Ao5 t218.length co5] rfl (by (try simp only [List.map_toArray, List.map_cons, List.map_nil]); first | done | rfl | (simp only [List.length_drop, List.length_take]; rfl)) ?_; (with_reducible refine (gocid_Cast.calls k _ _ t218 t221 (some q224) _ ?side1 ?side2 A3.out).mono ?_); (case side1 => repeat (first | exact (Kd.R_reads' HO220.out).2.2 | (with_reducible refine Kd.C_alloc ?_ _) | (with_reducible refine Kd.C_drewN ?_ _) | (with_reducible refine Kd.C_drew ?_))); (case side2 => exact (Kd.R_reads' HO220.out).2.1); rintro e w6 ⟨eT_t222, eX_t222, rfl, hb⟩; refine ⟨_, rfl, ?_⟩; have n0_ := Aside0.mk (Kd.R_below (by (with_reducible repeat (first | apply Kd.R_alloc | apply Kd.R_drewN | apply Kd.R_drew)); exact HO220.out) hb); have n1_ := Aside0.mk (below_step (by repeat (first | (with_reducible first | exact HB.out | apply below_alloc | apply pw_below_drewN | apply below_drew1) | exact HB.out)) hb); clear HO220; clear HB; have HO220 := n0_; have HB := n1_; clear n0_ n1_; (try clear hb); (try clear hb2); (try clear hk); (try clear hi); (try simp only [errV_none, errV_some])) | ((with_reducible refine gate_dst (N := 3) rfl ?_); refine box_event ?hg (N := 3) ?hd (cs := #[.string (⟨#[]⟩ : ByteArray)]) (t := 47) ?hr ?_; (case hd => rfl); (case hg => rfl); (case hr => first | (go_simp; done) | (go_simp; rfl)); intro gb223 hg w7 hbox hb; have n0_ := Aside0.mk (Kd.R_below (by (with_reducible repeat (first | apply Kd.R_alloc | apply Kd.R_drewN | apply Kd.R_drew)); exact HO220.out) hb); have n1_ := Aside0.mk (below_step (by repeat (first | (with_reducible first | exact HB.out | apply below_alloc | apply pw_below_drewN | apply below_drew1) | exact HB.out)) hb); have n2_ := Aside0.mk (hbox); have n3_ := Aside0.mk ((by rw [hg]; exact (below_size (by repeat (first | (with_reducible first | exact HB.out | apply below_alloc | apply pw_below_drewN | apply below_drew1) | exact HB.out))) : w.heap.size ≤ gb223)); have n4_ := Aside0.mk ((by rw [hg]; exact (below_size (by repeat (first | (with_reducible first | exact HB.out | apply below_alloc | apply pw_below_drewN | apply below_drew1) | exact HB.out))) : w.heap.size ≤ gb223)); clear HO220; clear HB; have HO220 := n0_; have HB := n1_; have BK223 := n2_; have GW223 := n3_; have GE223 := n4_; clear n0_ n1_ n2_ n3_ n4_; clear hb hbox hg; have hcz8_0 : w7.cell? ⟨gb223, 0, none⟩ = some (.string (⟨#[]⟩ : ByteArray)) := (blk_cell BK223.out 0).trans rfl; have hfz8_0 := blk_frozen BK223.out 0))
    go_ret
    exact ⟨by first | rfl | (simp [errV_none, errV_some] <;> rfl) | (simp [*, errV_none, errV_some] <;> rfl), by repeat (first | (with_reducible first | exact HB.out | apply below_alloc | apply pw_below_drewN | apply below_drew1 | refine below_set ?_ GE223.out) | exact HB.out)⟩

-- NOT PRINTED: function 11 (laws_key)

-- NOT PRINTED: function 21 (laws_identifier)

-- NOT PRINTED: function 12 (laws_safeLive)

-- NOT PRINTED: function 4 (laws_FnCidSafeFirst)

end Go.Proofs.YtbmeegkgcipmoaaDoor.PFnCidSafeFirst
